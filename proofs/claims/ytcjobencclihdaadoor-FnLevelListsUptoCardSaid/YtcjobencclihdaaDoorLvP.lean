/- Nested lists and their levels: what the levels tell of the lists at one level. -/
namespace Go.Proofs.YtcjobencclihdaaDoor.Lv
set_option linter.unusedVariables false
set_option linter.unusedSimpArgs false

inductive T where
  | mk (nul : Bool) (kids : List T)
def T.nul : T → Bool
  | .mk n _ => n
def T.kids : T → List T
  | .mk _ k => k
def atT : Nat → List T → List T
  | 0, l => l
  | k + 1, l => atT k (l.flatMap T.kids)
def nested : Nat → T → Bool
  | 0, t => t.kids.isEmpty
  | n + 1, t => if t.nul then t.kids.isEmpty else t.kids.all (nested n)
/-- The levels of a value with m levels below it, out of n. -/
def ent (n : Nat) : Nat → Nat → Nat → T → List (Nat × Nat)
  | 0, d, r, t => if t.nul then [(d, r)] else [(d + 1, r)]
  | m + 1, d, r, t => if t.nul then [(d, r)] else match t.kids with
    | [] => [(d + 1, r)]
    | k :: ks => ent n m (d + 2) r k ++ ks.flatMap (ent n m (d + 2) (n - m))
def shred (n : Nat) (ts : List T) : List (Nat × Nat) := ts.flatMap (ent n n 0 0)
def bump : List (Bool × Nat) → List (Bool × Nat)
  | [] => []
  | [x] => [(x.1, x.2 + 1)]
  | x :: y :: l => x :: bump (y :: l)
theorem bump_last (l : List (Bool × Nat)) (x : Bool × Nat) : bump (l ++ [x]) = l ++ [(x.1, x.2 + 1)] := by
  induction l with
  | nil => rfl
  | cons a l ih =>
    cases l with
    | nil => rfl
    | cons b l => exact congrArg (a :: ·) ih
def step (L : Nat) (st : List (Bool × Nat)) (e : Nat × Nat) : List (Bool × Nat) :=
  if e.1 < 2 * (L - 1) ∨ L < e.2 then st
  else if e.2 = L then bump st
  else st ++ [(decide (2 * L - 1 ≤ e.1), if 2 * L ≤ e.1 then 1 else 0)]
theorem atT_nil (k : Nat) : atT k [] = [] := by
  induction k with
  | zero => rfl
  | succ k ih => exact ih
theorem atT_append (k : Nat) : ∀ a b : List T, atT k (a ++ b) = atT k a ++ atT k b := by
  induction k with
  | zero => intro a b; rfl
  | succ k ih => intro a b; rw [atT, List.flatMap_append, ih]; rfl
theorem ent_first (n : Nat) : ∀ (m d r : Nat) (t : T), ∃ d' rest, ent n m d r t = (d', r) :: rest ∧ d ≤ d' ∧ ∀ e ∈ rest, n - m < e.2 ∨ n < m := by
  intro m
  induction m with
  | zero =>
    intro d r t
    unfold ent
    split
    · exact ⟨d, [], rfl, Nat.le_refl _, fun e he => by cases he⟩
    · exact ⟨d + 1, [], rfl, Nat.le_succ _, fun e he => by cases he⟩
  | succ m ih =>
    intro d r t
    unfold ent
    split
    · exact ⟨d, [], rfl, Nat.le_refl _, fun e he => by cases he⟩
    · split
      · exact ⟨d + 1, [], rfl, Nat.le_succ _, fun e he => by cases he⟩
      · rename_i k ks hk
        obtain ⟨d', rest, h1, h2, h3⟩ := ih (d + 2) r k
        refine ⟨d', rest ++ ks.flatMap (ent n m (d + 2) (n - m)), by rw [h1]; rfl, by omega, fun e he => ?_⟩
        rcases List.mem_append.1 he with h | h
        · have := h3 e h; omega
        · obtain ⟨k', hk', h⟩ := List.mem_flatMap.1 h
          obtain ⟨d'', rest', g1, g2, g3⟩ := ih (d + 2) (n - m) k'
          rw [g1] at h
          rcases List.mem_cons.1 h with h | h
          · rw [h]; show _ < n - m ∨ _; omega
          · have := g3 e h; omega
theorem skip_rest (L : Nat) (st : List (Bool × Nat)) (l : List (Nat × Nat)) (h : ∀ e ∈ l, L < e.2) : l.foldl (step L) st = st := by
  induction l generalizing st with
  | nil => rfl
  | cons e l ih =>
    rw [List.foldl_cons, show step L st e = st from if_pos (.inr (h e (List.mem_cons_self ..)))]
    exact ih st (fun e he => h e (List.mem_cons_of_mem _ he))
/-- What follows of a list: each further element counts one. -/
theorem more_kids (n m L : Nat) (hL : 1 ≤ L) (hm : n - m = L) (hmn : m ≤ n) : ∀ (ks : List T) (st : List (Bool × Nat)) (x : Bool × Nat), (ks.flatMap (ent n m (2 * L) L)).foldl (step L) (st ++ [x]) = st ++ [(x.1, x.2 + ks.length)] := by
  intro ks
  induction ks with
  | nil => intro st x; rfl
  | cons k ks ih =>
    intro st x
    obtain ⟨d', rest, h1, h2, h3⟩ := ent_first n m (2 * L) L k
    rw [List.flatMap_cons, List.foldl_append, h1, List.foldl_cons]
    have e1 : step L (st ++ [x]) (d', L) = st ++ [(x.1, x.2 + 1)] := by
      unfold step
      rw [if_neg (by rintro (h | h); dsimp only at h; omega; dsimp only at h; omega), if_pos rfl, bump_last]
    rw [e1, skip_rest L _ rest (fun e he => by have := h3 e he; omega), ih]
    simp
    omega
theorem scan_one (n L : Nat) (hL : 1 ≤ L) (hn : L ≤ n) : ∀ (j l m : Nat), l + j + 1 = L → l + m = n → ∀ (r : Nat) (t : T) (st : List (Bool × Nat)), r ≤ l → nested m t = true →
    (ent n m (2 * l) r t).foldl (step L) st = st ++ (atT j [t]).map (fun t => (!t.nul, t.kids.length)) := by
  intro j
  induction j with
  | zero =>
    intro l m h1 h2 r t st hr hne
    obtain ⟨m', rfl⟩ : ∃ m', m = m' + 1 := ⟨m - 1, by omega⟩
    have hstep : ∀ d, 2 * l ≤ d → step L st (d, r) = st ++ [(decide (2 * L - 1 ≤ d), if 2 * L ≤ d then 1 else 0)] := by
      intro d hd
      unfold step
      rw [if_neg (by rintro (h | h); dsimp only at h; omega; dsimp only at h; omega), if_neg (by dsimp only; omega)]
    unfold ent
    unfold nested at hne
    by_cases hnul : t.nul = true
    · rw [if_pos hnul] at hne ⊢
      have hk : t.kids = [] := by simpa using hne
      rw [List.foldl_cons, List.foldl_nil, hstep _ (Nat.le_refl _), decide_eq_false (by omega), if_neg (by omega)]
      simp [atT, hnul, hk]
    · rw [if_neg hnul] at hne ⊢
      have hnf : t.nul = false := by simpa using hnul
      cases hk : t.kids with
      | nil =>
        dsimp only
        rw [List.foldl_cons, List.foldl_nil, hstep _ (by omega), decide_eq_true (by omega), if_neg (by omega)]
        simp [atT, hnf, hk]
      | cons k ks =>
        dsimp only
        obtain ⟨d', rest, g1, g2, g3⟩ := ent_first n m' (2 * l + 2) r k
        rw [List.foldl_append, g1, List.foldl_cons, hstep d' (by omega), decide_eq_true (by omega), if_pos (by omega), skip_rest L _ rest (fun e he => by have := g3 e he; omega), show 2 * l + 2 = 2 * L by omega, show n - m' = L by omega, more_kids n m' L hL (by omega) (by omega)]
        simp [atT, hnf, hk]
        omega
  | succ j ih =>
    intro l m h1 h2 r t st hr hne
    obtain ⟨m', rfl⟩ : ∃ m', m = m' + 1 := ⟨m - 1, by omega⟩
    have hskip : ∀ d, d < 2 * (L - 1) → step L st (d, r) = st := fun d hd => if_pos (.inl hd)
    unfold ent
    unfold nested at hne
    by_cases hnul : t.nul = true
    · rw [if_pos hnul] at hne ⊢
      have hk : t.kids = [] := by simpa using hne
      rw [List.foldl_cons, List.foldl_nil, hskip _ (by omega)]
      simp [atT, hk, atT_nil]
    · rw [if_neg hnul] at hne ⊢
      cases hk : t.kids with
      | nil =>
        dsimp only
        rw [List.foldl_cons, List.foldl_nil, hskip _ (by omega)]
        simp [atT, hk, atT_nil]
      | cons k ks =>
        dsimp only
        rw [hk] at hne
        simp only [List.all_cons, Bool.and_eq_true] at hne
        have e0 : atT (j + 1) [t] = atT j (k :: ks) := by rw [atT]; simp [hk]
        rw [e0, show 2 * l + 2 = 2 * (l + 1) by omega, List.foldl_append, ih (l + 1) m' (by omega) (by omega) r k st (by omega) hne.1]
        have hrest : ∀ (ks : List T) (st : List (Bool × Nat)), (ks.all (nested m')) = true → (ks.flatMap (ent n m' (2 * (l + 1)) (n - m'))).foldl (step L) st = st ++ (atT j ks).map (fun t => (!t.nul, t.kids.length)) := by
          intro ks
          induction ks with
          | nil => intro st _; simp [atT_nil]
          | cons a ks ihk =>
            intro st ha
            simp only [List.all_cons, Bool.and_eq_true] at ha
            rw [List.flatMap_cons, List.foldl_append, ih (l + 1) m' (by omega) (by omega) (n - m') a st (by omega) ha.1, ihk _ ha.2]
            rw [show a :: ks = [a] ++ ks from rfl, atT_append, List.map_append, List.append_assoc]
        rw [hrest ks _ hne.2, show k :: ks = [k] ++ ks from rfl, atT_append, List.map_append, List.append_assoc]
theorem scan_all (n L : Nat) (hL : 1 ≤ L) (hn : L ≤ n) : ∀ (ts : List T) (st : List (Bool × Nat)), ts.all (nested n) = true → (shred n ts).foldl (step L) st = st ++ (atT (L - 1) ts).map (fun t => (!t.nul, t.kids.length)) := by
  intro ts
  induction ts with
  | nil => intro st _; simp [shred, atT_nil]
  | cons a ts ih =>
    intro st h
    simp only [List.all_cons, Bool.and_eq_true] at h
    unfold shred at ih ⊢
    have h1 := scan_one n L hL hn (L - 1) 0 n (by omega) (by omega) 0 a st (Nat.le_refl _) h.1
    rw [Nat.mul_zero] at h1
    rw [List.flatMap_cons, List.foldl_append, h1, ih _ h.2, show a :: ts = [a] ++ ts from rfl, atT_append, List.map_append, List.append_assoc]

end Go.Proofs.YtcjobencclihdaaDoor.Lv
