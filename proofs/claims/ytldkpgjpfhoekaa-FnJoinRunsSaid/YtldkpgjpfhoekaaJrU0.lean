/- Joined ends: the plain law of what updateRuns writes. -/
import Derived.Test.YtldkpgjpfhoekaaJrL
namespace Go.Proofs.Ytldkpgjpfhoekaa.Join
open Go.RowKit Go.Proofs.YtldkpgjpfhoekaaW.PrintWords Go.Proofs.YtldkpgjpfhoekaaW.PrintLast Go.Proofs.YtldkpgjpfhoekaaW.PrintMore
set_option linter.unusedVariables false
set_option linter.unusedSimpArgs false

def offAt (ol : List (Int × Int)) (k : Nat) : Int := (ol.getD k (0, 0)).1
def lenAt (ol : List (Int × Int)) (k : Nat) : Int := (ol.getD k (0, 0)).2
def sm (ol : List (Int × Int)) : Nat → Int
  | 0 => 0
  | k + 1 => sm ol k + lenAt ol k
def one (s off len : Int) (E : List Int) : List Int := E.dropLast.map (fun e => s + e - off) ++ [s + len]
def jn (ol : List (Int × Int)) (es : List (List Int)) : Nat → List Int
  | 0 => []
  | k + 1 => jn ol es k ++ one (sm ol k) (offAt ol k) (lenAt ol k) (es.getD k [])
structure Fit1 (off len : Int) (E : List Int) : Prop where
  off0 : 0 ≤ off
  off1 : off ≤ 1000
  len1 : 1 ≤ len
  len5 : len ≤ 500
  cnt0 : 0 < E.length
  cnt5 : E.length ≤ 500
  val : ∀ x ∈ E, 0 < x ∧ x ≤ 16384
  last : off + len ≤ E.getD (E.length - 1) 0
structure Fit (ol : List (Int × Int)) (es : List (List Int)) (n : Nat) : Prop where
  eslen : es.length = n
  ollen : ol.length = n
  few : n ≤ 20
  at_ : ∀ k, k < n → Fit1 (offAt ol k) (lenAt ol k) (es.getD k [])
theorem one_len (s off len : Int) (E : List Int) (h : 0 < E.length) : (one s off len E).length = E.length := by
  simp [one]; omega
theorem jn_len (ol : List (Int × Int)) (es : List (List Int)) (k : Nat) (h : 0 < (es.getD k []).length) : (jn ol es (k + 1)).length = (jn ol es k).length + (es.getD k []).length := by
  rw [jn, List.length_append, one_len _ _ _ _ h]
theorem Fit.mono {ol : List (Int × Int)} {es : List (List Int)} {n : Nat} (h : Fit ol es n) (k : Nat) : ∀ m, k ≤ m → m ≤ n → (jn ol es k).length ≤ (jn ol es m).length := by
  intro m
  induction m with
  | zero => intro h1 _; obtain rfl : k = 0 := by omega
            exact Nat.le_refl _
  | succ m ih =>
    intro h1 h2
    by_cases hk : k = m + 1
    · rw [hk]; exact Nat.le_refl _
    · have := ih (by omega) (by omega)
      rw [jn_len ol es m (h.at_ m (by omega)).cnt0]
      omega
theorem Fit.small {ol : List (Int × Int)} {es : List (List Int)} {n : Nat} (h : Fit ol es n) : ∀ k, k ≤ n → (jn ol es k).length ≤ 500 * k := by
  intro k
  induction k with
  | zero => intro _; simp [jn]
  | succ k ih =>
    intro hk
    have h1 := h.at_ k (by omega)
    have := ih (by omega)
    rw [jn_len ol es k h1.cnt0]
    have := h1.cnt5
    omega
theorem Fit.sum {ol : List (Int × Int)} {es : List (List Int)} {n : Nat} (h : Fit ol es n) : ∀ k, k ≤ n → (k : Int) ≤ sm ol k ∧ sm ol k ≤ 500 * k := by
  intro k
  induction k with
  | zero => intro _; simp [sm]
  | succ k ih =>
    intro hk
    have h1 := h.at_ k (by omega)
    have := ih (by omega)
    have := h1.len1
    have := h1.len5
    rw [sm]
    push_cast
    omega
theorem jn_pos {ol : List (Int × Int)} {es : List (List Int)} {n : Nat} (h : Fit ol es n) (k : Nat) (hk : k ≤ n) : (k = 0 ∧ (jn ol es k).length = 0) ∨ (0 < k ∧ 0 < (jn ol es k).length) := by
  cases k with
  | zero => exact .inl ⟨rfl, rfl⟩
  | succ k => exact .inr ⟨by omega, by rw [jn_len ol es k (h.at_ k (by omega)).cnt0]; have := (h.at_ k (by omega)).cnt0; omega⟩
theorem jn_last (ol : List (Int × Int)) (es : List (List Int)) (k : Nat) : (jn ol es (k + 1)).getD ((jn ol es (k + 1)).length - 1) 0 = sm ol (k + 1) := by
  rw [jn, one, ← List.append_assoc]
  simp [List.getD_eq_getElem?_getD, sm]
/-- The last place of a row of new ends is set. -/
theorem set_end (xs E : List Int) (s off v : Int) (h : 0 < E.length) : (xs ++ E.map (fun e => s + e - off)).set (xs.length + E.length - 1) v = xs ++ (E.dropLast.map (fun e => s + e - off) ++ [v]) := by
  obtain ⟨E', x, rfl⟩ : ∃ E' x, E = E' ++ [x] := ⟨E.dropLast, E.getLast (by intro e; rw [e] at h; simp at h), (List.dropLast_concat_getLast _).symm⟩
  rw [List.set_append_right _ _ (by simp)]
  simp
theorem fill_set_in {α : Type} (xs : List α) (z x : α) (n i : Nat) (h : i < xs.length) : (fill xs z n).set i x = fill (xs.set i x) z n := by
  unfold fill
  rw [List.set_append_left _ _ h, List.length_set]
theorem fill_getD_in {α : Type} (xs : List α) (z x : α) (n i : Nat) (h : i < xs.length) : (fill xs z n)[i]? = xs[i]? := by
  unfold fill
  rw [List.getElem?_append_left h]
/-- An end of the row in which the first j are moved. -/
theorem moved_at (E : List Int) (off : Int) (j : Nat) (h : j < E.length) : ((E.take j).map (fun e => (0 : Int) + e - off) ++ E.drop j).set j (E.getD j 0 - off) = (E.take (j + 1)).map (fun e => (0 : Int) + e - off) ++ E.drop (j + 1) := by
  have hl : ((E.take j).map (fun e => (0 : Int) + e - off)).length = j := by rw [List.length_map, List.length_take]; omega
  have hd : E.drop j = E[j] :: E.drop (j + 1) := List.drop_eq_getElem_cons h
  rw [List.set_append_right _ _ (by omega), hl, Nat.sub_self, map_snoc _ E j 0 h, List.append_assoc, hd]
  rw [List.set_cons_zero, List.getD_eq_getElem?_getD, List.getElem?_eq_getElem h]
  simp
theorem moved_get (E : List Int) (off : Int) (j : Nat) (h : j < E.length) : ((E.take j).map (fun e => (0 : Int) + e - off) ++ E.drop j)[j]? = some (E.getD j 0) := by
  have hl : ((E.take j).map (fun e => (0 : Int) + e - off)).length = j := by rw [List.length_map, List.length_take]; omega
  rw [List.getElem?_append_right (by omega), hl, Nat.sub_self, show E.drop j = E[j] :: E.drop (j + 1) from List.drop_eq_getElem_cons h]
  simp [List.getD_eq_getElem?_getD, List.getElem?_eq_getElem h]
theorem moved_len (E : List Int) (off : Int) (j : Nat) (h : j ≤ E.length) : ((E.take j).map (fun e => (0 : Int) + e - off) ++ E.drop j).length = E.length := by
  simp; omega
theorem Fit.range {ol : List (Int × Int)} {es : List (List Int)} {n : Nat} (h : Fit ol es n) : ∀ k, k ≤ n → ∀ x ∈ jn ol es k, -1000 ≤ x ∧ x ≤ 26384 := by
  intro k
  induction k with
  | zero => intro _ x hx; simp [jn] at hx
  | succ k ih =>
    intro hk x hx
    have h1 := h.at_ k (by omega)
    have h2 := h.sum k (by omega)
    have h3 := h.few
    rw [jn, List.mem_append] at hx
    rcases hx with hx | hx
    · exact ih (by omega) x hx
    · rw [one, List.mem_append] at hx
      have := h1.off0
      have := h1.off1
      have := h1.len1
      have := h1.len5
      rcases hx with hx | hx
      · obtain ⟨e, he, rfl⟩ := List.mem_map.1 hx
        have := h1.val e (List.dropLast_subset _ he)
        omega
      · simp at hx
        omega
theorem reads_fill0 {w : World} {p N : Nat} (h : W8 w p 5 [] (fill [] 0 N)) (hN : N ≤ 1000000) : ReadsOf (Value.int .u8) (0 : Int) w (some ⟨p, 0, none⟩) N (List.replicate N 0) := by
  have e : fill ([] : List Int) 0 N = List.replicate N 0 := by simp [fill]
  rw [e] at h
  refine ⟨by simp, by omega, fun _ => ⟨_, rfl, fun j hj => ?_⟩⟩
  have h1 := h.cell j (by simpa using hj)
  rw [add_plain]
  simpa using h1
theorem farC {w : World} {p : Addr} {v : Value} (h : w.cell? p = some v) : ∀ W, Below w.heap.size w W → W.cell? p = some v := fun W hb => (hb.cell (World.block_lt_of_cell? w _ h)).trans h
def Joined (p z : Nat) (l : List Int) (w : World) (e : Ending) (w' : World) : Prop := e = .returned .nilIface ∧ w.grownBy w' (some p) ∧ W8 w' p 5 [] (bytesL z l)

end Go.Proofs.Ytldkpgjpfhoekaa.Join
