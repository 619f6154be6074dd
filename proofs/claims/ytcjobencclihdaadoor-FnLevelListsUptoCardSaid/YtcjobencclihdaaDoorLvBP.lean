/- Offsets: the sums so far (plain). -/
import Derived.Test.YtcjobencclihdaaDoorLvP
namespace Go.Proofs.YtcjobencclihdaaDoor.Lv
set_option linter.unusedVariables false
set_option linter.unusedSimpArgs false

/-- The sum of the counts. -/
def tot : List (Bool × Nat) → Nat
  | [] => 0
  | x :: l => x.2 + tot l
theorem tot_app (l m : List (Bool × Nat)) : tot (l ++ m) = tot l + tot m := by
  induction l with
  | nil => simp [tot]
  | cons a l ih => simp only [List.cons_append, tot, ih]; omega
/-- The sums so far. -/
def ps : Nat → List (Bool × Nat) → List Int
  | _, [] => []
  | a, x :: l => ((a + x.2 : Nat) : Int) :: ps (a + x.2) l
theorem ps_len (l : List (Bool × Nat)) : ∀ a, (ps a l).length = l.length := by
  induction l with
  | nil => intro a; rfl
  | cons x l ih => intro a; simp [ps, ih]
theorem ps_snoc (l : List (Bool × Nat)) (x : Bool × Nat) : ∀ a, ps a (l ++ [x]) = ps a l ++ [((a + tot l + x.2 : Nat) : Int)] := by
  induction l with
  | nil => intro a; simp [ps, tot]
  | cons y l ih =>
    intro a
    simp only [List.cons_append, ps, ih, tot]
    rw [Nat.add_assoc a y.2 (tot l)]
theorem ps_get (l : List (Bool × Nat)) : ∀ (a i : Nat), i < l.length → (ps a l).getD i 0 = ((a + tot (l.take (i + 1)) : Nat) : Int) := by
  induction l with
  | nil => intro a i h; simp at h
  | cons x l ih =>
    intro a i h
    cases i with
    | zero => simp [ps, tot]
    | succ i =>
      simp only [ps, List.getD_cons_succ, List.take_succ_cons, tot]
      rw [ih _ _ (by simpa using h)]
      rw [Nat.add_assoc]
theorem tot_take (l : List (Bool × Nat)) (i : Nat) (h : i < l.length) : tot (l.take (i + 1)) = tot (l.take i) + (l.getD i (false, 0)).2 := by
  rw [List.take_succ_eq_append_getElem h, tot_app]
  simp [tot, List.getD_eq_getElem?_getD, List.getElem?_eq_getElem h]
/-- The row of offsets: the sums so far, and naughts. -/
def offs (N : Nat) (l : List (Bool × Nat)) : List Int := ps 0 l ++ List.replicate (N + 1 - l.length) 0
theorem offs_len (N : Nat) (l : List (Bool × Nat)) (h : l.length ≤ N + 1) : (offs N l).length = N + 1 := by
  simp [offs, ps_len]
  omega
theorem offs_last (N : Nat) (l : List (Bool × Nat)) (x : Bool × Nat) : (offs N (l ++ [x])).getD l.length 0 = ((tot (l ++ [x]) : Nat) : Int) := by
  unfold offs
  rw [ps_snoc, tot_app]
  simp [List.getD_eq_getElem?_getD, List.getElem?_append, ps_len, tot]
theorem offs_bump (N : Nat) (l : List (Bool × Nat)) (x : Bool × Nat) (y : Int) (hy : y = ((tot (l ++ [x]) : Nat) : Int) + 1) : (offs N (l ++ [x])).set l.length y = offs N (l ++ [(x.1, x.2 + 1)]) := by
  subst hy
  unfold offs
  rw [ps_snoc, ps_snoc, tot_app, List.set_append_left _ _ (by simp [ps_len]), List.set_append_right _ _ (by simp [ps_len])]
  simp [ps_len, tot]
  omega
theorem offs_push (N : Nat) (l : List (Bool × Nat)) (x : Bool × Nat) (y : Int) (hl : l.length < N + 1) (hy : y = ((tot (l ++ [x]) : Nat) : Int)) : (offs N l).set l.length y = offs N (l ++ [x]) := by
  subst hy
  unfold offs
  rw [ps_snoc, tot_app, List.set_append_right _ _ (by simp [ps_len]), ps_len, Nat.sub_self, show N + 1 - l.length = (N + 1 - (l ++ [x]).length) + 1 by simp; omega, List.replicate_succ, List.set_cons_zero]
  simp [tot]
theorem bump_len (l : List (Bool × Nat)) : (bump l).length = l.length ∧ tot l ≤ tot (bump l) := by
  rcases List.eq_nil_or_concat l with rfl | ⟨m, x, rfl⟩
  · exact ⟨rfl, Nat.le_refl _⟩
  · rw [List.concat_eq_append, bump_last]
    simp [tot_app, tot]
theorem step_up (L : Nat) (st : List (Bool × Nat)) (e : Nat × Nat) : st.length ≤ (step L st e).length ∧ tot st ≤ tot (step L st e) := by
  unfold step
  split
  · exact ⟨Nat.le_refl _, Nat.le_refl _⟩
  · split
    · have := bump_len st; exact ⟨by omega, this.2⟩
    · rw [List.length_append, tot_app]; exact ⟨by omega, by omega⟩
theorem fold_up (L : Nat) (es : List (Nat × Nat)) : ∀ st : List (Bool × Nat), st.length ≤ (es.foldl (step L) st).length ∧ tot st ≤ tot (es.foldl (step L) st) := by
  induction es with
  | nil => intro st; exact ⟨Nat.le_refl _, Nat.le_refl _⟩
  | cons e es ih =>
    intro st
    have h1 := step_up L st e
    have h2 := ih (step L st e)
    rw [List.foldl_cons]
    exact ⟨by omega, by omega⟩
/-- What has come of the first entries. -/
def sofar (L first : Nat) (es : List (Nat × Nat)) (i : Nat) : List (Bool × Nat) := (es.take i).foldl (step L) [(true, first)]
theorem sofar_le (L first : Nat) (es : List (Nat × Nat)) (i : Nat) : (sofar L first es i).length ≤ (sofar L first es es.length).length ∧ tot (sofar L first es i) ≤ tot (sofar L first es es.length) ∧ 1 ≤ (sofar L first es i).length := by
  have e : es = es.take i ++ es.drop i := (List.take_append_drop i es).symm
  have h2 := fold_up L (es.take i) [(true, first)]
  have h3 : sofar L first es es.length = (es.drop i).foldl (step L) (sofar L first es i) := by
    unfold sofar
    rw [List.take_length, ← List.foldl_append, List.take_append_drop]
  have h1 := fold_up L (es.drop i) (sofar L first es i)
  rw [h3]
  exact ⟨h1.1, h1.2, h2.1⟩
theorem sofar_succ (L first : Nat) (es : List (Nat × Nat)) (i : Nat) (h : i < es.length) : sofar L first es (i + 1) = step L (sofar L first es i) (es.getD i (0, 0)) := by
  unfold sofar
  rw [List.take_succ_eq_append_getElem h, List.foldl_append]
  simp [List.getD_eq_getElem?_getD, List.getElem?_eq_getElem h]
theorem sofar_snoc (L first : Nat) (es : List (Nat × Nat)) (i : Nat) : ∃ l x, sofar L first es i = l ++ [x] := by
  have h := (sofar_le L first es i).2.2
  rcases List.eq_nil_or_concat (sofar L first es i) with h0 | ⟨m, x, h0⟩
  · rw [h0] at h; simp at h
  · exact ⟨m, x, by rw [h0, List.concat_eq_append]⟩
/-- How many are not there. -/
def nuls (l : List (Bool × Nat)) : Nat := (l.filter (fun x => !x.1)).length
theorem nuls_app (l m : List (Bool × Nat)) : nuls (l ++ m) = nuls l + nuls m := by simp [nuls]
theorem nuls_le (l : List (Bool × Nat)) : nuls l ≤ l.length := List.length_filter_le _ _
/-- The bits so far, with those ahead. -/
def bitsOf (a : Nat) (l : List (Bool × Nat)) : List Bool := List.replicate a true ++ (l.drop 1).map (·.1)
theorem bitsOf_len (a : Nat) (l : List (Bool × Nat)) : (bitsOf a l).length = a + (l.length - 1) := by simp [bitsOf]
theorem bitsOf_push (a : Nat) (l : List (Bool × Nat)) (x : Bool × Nat) (h : 1 ≤ l.length) : bitsOf a (l ++ [x]) = bitsOf a l ++ [x.1] := by
  unfold bitsOf
  rw [List.drop_append_of_le_length h]
  simp
theorem bitsOf_bump (a : Nat) (l : List (Bool × Nat)) (x y : Bool × Nat) (h : x.1 = y.1) : bitsOf a (l ++ [x]) = bitsOf a (l ++ [y]) := by
  cases l with
  | nil => rfl
  | cons b l => simp [bitsOf, h]


/-- The number of a byte's bits. -/
def pk : List Bool → Nat
  | [] => 0
  | b :: l => b.toNat + 2 * pk l
theorem pk_snoc (b : Bool) : ∀ l : List Bool, pk (l ++ [b]) = pk l + b.toNat * 2 ^ l.length
  | [] => by simp [pk]
  | a :: l => by
    simp only [List.cons_append, pk, pk_snoc b l, List.length_cons, Nat.pow_succ]
    rw [Nat.mul_add, Nat.mul_comm (2 ^ l.length) 2, ← Nat.mul_assoc, ← Nat.mul_assoc, Nat.mul_comm 2 b.toNat]
    omega
theorem pk_lt : ∀ l : List Bool, pk l < 2 ^ l.length
  | [] => by simp [pk]
  | a :: l => by
    have := pk_lt l
    have h : a.toNat ≤ 1 := Bool.toNat_le a
    simp only [pk, List.length_cons, Nat.pow_succ]
    omega
theorem pk_bit : ∀ (l : List Bool) (j : Nat), j < l.length → (pk l / 2 ^ j % 2 = 1 ↔ l.getD j false = true)
  | [], j, h => absurd h (by simp)
  | a :: l, 0, _ => by
    have : a.toNat = if a then 1 else 0 := by cases a <;> rfl
    simp only [pk, Nat.pow_zero, Nat.div_one, List.getD_cons_zero, this]
    split <;> rename_i h <;> simp [h] <;> omega
  | a :: l, j + 1, h => by
    have h1 := pk_bit l j (by simpa using h)
    have h2 : a.toNat ≤ 1 := Bool.toNat_le a
    rw [List.getD_cons_succ, ← h1]
    simp only [pk, Nat.pow_succ]
    rw [Nat.mul_comm (2 ^ j) 2, ← Nat.div_div_eq_div_mul, show (a.toNat + 2 * pk l) / 2 = pk l by omega]
/-- What is written when the bits of S have been: the bytes that are full, the byte that is not. -/
structure Bs (S : List Bool) (bs : List Int) : Prop where
  full : ∀ i, i < S.length / 8 → bs.getD i 0 = (pk ((S.drop (8 * i)).take 8) : Int)
def curB (S : List Bool) : Int := (pk (S.drop (8 * (S.length / 8))) : Int)
def maskB (S : List Bool) : Int := ((2 ^ (S.length % 8) : Nat) : Int)
theorem drop_snoc (S : List Bool) (b : Bool) : (S ++ [b]).drop (8 * (S.length / 8)) = S.drop (8 * (S.length / 8)) ++ [b] := by
  rw [List.drop_append_of_le_length (by omega)]
theorem cur_len (S : List Bool) : (S.drop (8 * (S.length / 8))).length = S.length % 8 := by simp; omega
theorem cur_lt (S : List Bool) : 0 ≤ curB S ∧ curB S < maskB S ∧ curB S < 256 := by
  have h := pk_lt (S.drop (8 * (S.length / 8)))
  rw [cur_len] at h
  have h2 : 2 ^ (S.length % 8) ≤ 2 ^ 7 := Nat.pow_le_pow_right (by omega) (by omega)
  unfold curB maskB
  exact ⟨by omega, by omega, by omega⟩
/-- The next bit within the byte. -/
theorem low (S : List Bool) (b : Bool) (h : S.length % 8 < 7) :
    curB (S ++ [b]) = curB S + b.toNat * maskB S ∧ maskB (S ++ [b]) = maskB S * 2 ∧ (S ++ [b]).length / 8 = S.length / 8 := by
  have e : (S ++ [b]).length / 8 = S.length / 8 := by simp; omega
  have e2 : (S ++ [b]).length % 8 = S.length % 8 + 1 := by simp; omega
  refine ⟨?_, ?_, e⟩
  · unfold curB maskB
    rw [e, drop_snoc, pk_snoc, cur_len]
    push_cast
    rfl
  · unfold maskB
    rw [e2, Nat.pow_succ]
    push_cast
    rfl
theorem low_full (S : List Bool) (b : Bool) (bs : List Int) (h : S.length % 8 < 7) (hb : Bs S bs) : Bs (S ++ [b]) bs := by
  refine ⟨fun i hi => ?_⟩
  have h2 : i < S.length / 8 := by simp at hi; omega
  rw [hb.full i h2, List.drop_append_of_le_length (by omega), List.take_append_of_le_length (by simp; omega)]
/-- The last bit of a byte. -/
theorem high (S : List Bool) (b : Bool) (h : S.length % 8 = 7) :
    curB (S ++ [b]) = 0 ∧ maskB (S ++ [b]) = 1 ∧ (S ++ [b]).length / 8 = S.length / 8 + 1 ∧ (S.length + 1) % 8 = 0 := by
  have e : (S ++ [b]).length / 8 = S.length / 8 + 1 := by simp; omega
  have e2 : (S ++ [b]).length % 8 = 0 := by simp; omega
  refine ⟨?_, ?_, e, by omega⟩
  · unfold curB
    rw [e, List.drop_eq_nil_of_le (by simp; omega)]
    rfl
  · unfold maskB
    rw [e2]
    rfl
theorem high_full (S : List Bool) (b : Bool) (bs : List Int) (h : S.length % 8 = 7) (hl : S.length / 8 < bs.length) (hb : Bs S bs) : Bs (S ++ [b]) (bs.set (S.length / 8) (curB S + b.toNat * maskB S)) := by
  refine ⟨fun i hi => ?_⟩
  have h2 : i ≤ S.length / 8 := by simp at hi; omega
  by_cases he : i = S.length / 8
  · subst he
    have e1 : (bs.set (S.length / 8) (curB S + b.toNat * maskB S)).getD (S.length / 8) 0 = curB S + b.toNat * maskB S := by
      simp [List.getD_eq_getElem?_getD, hl]
    rw [e1, List.drop_append_of_le_length (by omega), List.take_of_length_le (by simp; omega), pk_snoc, cur_len]
    unfold curB maskB
    push_cast
    rfl
  · have h3 : i < S.length / 8 := by omega
    have e1 : (bs.set (S.length / 8) (curB S + b.toNat * maskB S)).getD i 0 = bs.getD i 0 := by
      simp [List.getD_eq_getElem?_getD, List.getElem?_set_ne (Ne.symm he)]
    rw [e1, hb.full i h3, List.drop_append_of_le_length (by omega), List.take_append_of_le_length (by simp; omega)]

end Go.Proofs.YtcjobencclihdaaDoor.Lv
