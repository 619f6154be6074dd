/- What batches take of a list, in plain Lean, and the printed form of it. -/
import Derived.Test.YtbghkoalmjfpiaaR4C
namespace Go.Proofs.Ytbghkoalmjfpiaa.Plain
open Go.RowKit Go.Proofs.YtbghkoalmjfpiaaW.PrintWords Go.Proofs.YtbghkoalmjfpiaaW.PrintLast Go.Proofs.YtbghkoalmjfpiaaW.PrintMore Go.Proofs.Ytbghkoalmjfpiaa.PBatchedValues
set_option linter.unusedVariables false
set_option linter.unusedSimpArgs false

/-- What batches take of a list: one of -n leaves n out. -/
def takes {α : Type} : List α → List Int → Option (List α)
  | _, [] => some []
  | l, b :: bs => if b.natAbs ≤ l.length then (takes (l.drop b.natAbs) bs).map ((if 0 < b then l.take b.natAbs else []) ++ ·) else none
def bat {α : Type} (l : List α) (b : List Int) : Option (List α) := if 50 < b.length then none else takes l b
theorem takes_map {α β : Type} (f : α → β) : ∀ (b : List Int) (l : List α), takes (l.map f) b = (takes l b).map (List.map f)
  | [], _ => rfl
  | b :: bs, l => by
    unfold takes
    rw [List.length_map]
    split
    · rw [← List.map_drop, takes_map f bs]
      cases takes (l.drop b.natAbs) bs with
      | none => rfl
      | some r =>
        by_cases h : 0 < b <;> simp [h]
    · rfl
theorem bat_map {α β : Type} (f : α → β) (b : List Int) (l : List α) : bat (l.map f) b = (bat l b).map (List.map f) := by
  unfold bat
  split
  · rfl
  · exact takes_map f b l
theorem takes_mem {α : Type} : ∀ (b : List Int) (l r : List α), takes l b = some r → ∀ x ∈ r, x ∈ l
  | [], l, r, h, x, hx => by
    simp [takes] at h
    subst h
    cases hx
  | b :: bs, l, r, h, x, hx => by
    unfold takes at h
    split at h
    · obtain ⟨r', hr', rfl⟩ := Option.map_eq_some_iff.1 h
      rcases List.mem_append.1 hx with hx | hx
      · split at hx
        · exact List.mem_of_mem_take hx
        · cases hx
      · exact List.mem_of_mem_drop (takes_mem bs _ _ hr' x hx)
    · cases h
theorem takes_len {α : Type} : ∀ (b : List Int) (l r : List α), takes l b = some r → r.length ≤ l.length
  | [], l, r, h => by
    simp [takes] at h
    subst h
    simp
  | b :: bs, l, r, h => by
    unfold takes at h
    split at h
    · rename_i hb
      obtain ⟨r', hr', rfl⟩ := Option.map_eq_some_iff.1 h
      have := takes_len bs _ _ hr'
      rw [List.length_drop] at this
      rw [List.length_append]
      split
      · rw [List.length_take]; omega
      · simp; omega
    · cases h
def cnt (n : Nat) : List Int := (List.range n).map fun i : Nat => (i : Int)
theorem cnt_len (n : Nat) : (cnt n).length = n := by simp [cnt]
theorem gv_cnt (l : List V) : (cnt l.length).map (fun i => gv l i.toNat) = l := by
  apply List.ext_getElem
  · simp [cnt]
  · intro i h1 h2
    simp [cnt, gv_get l i h2]
theorem bat_cnt (l : List V) (b : List Int) : bat l b = (bat (cnt l.length) b).map (List.map fun i => gv l i.toNat) := by
  rw [← bat_map, gv_cnt]
theorem cnt_mem {n : Nat} {i : Int} (h : i ∈ cnt n) : 0 ≤ i ∧ i < n := by
  simp [cnt] at h
  obtain ⟨a, h1, h2⟩ := h
  omega

/-! ### the printed forms -/
theorem counted_l (n : Nat) (hn : n ≤ 1000000) (d : Nat) : ∀ (k i : Nat), i ≤ n → n - i = d → d < k → spec_Counted0.l0 k (n : Int) (cnt i) (i : Int) = some (cnt n) := by
  induction d with
  | zero =>
    intro k i h1 h2 h3
    obtain ⟨k, rfl⟩ : ∃ m, k = m + 1 := ⟨k - 1, by omega⟩
    obtain rfl : i = n := by omega
    simp only [spec_Counted0.l0]
    rw [if_neg (by omega)]
  | succ d ih =>
    intro k i h1 h2 h3
    obtain ⟨k, rfl⟩ : ∃ m, k = m + 1 := ⟨k - 1, by omega⟩
    simp only [spec_Counted0.l0]
    rw [if_pos (by omega), if_pos (by rw [cnt_len]; omega)]
    have e1 : IntKind.u64.wrap (i : Int) = (i : Int) := by rw [IntKind.wrap_u64]; omega
    have e2 : wrap64 ((i : Int) + 1) = ((i + 1 : Nat) : Int) := by unfold wrap64; omega
    have e3 : cnt i ++ [(i : Int)] = cnt (i + 1) := by simp [cnt, List.range_succ]
    rw [e1, e2, e3]
    exact ih k (i + 1) (by omega) (by omega) (by omega)
theorem counted_f (n : Nat) (hn : n ≤ 1000000) : spec_Counted0.f (n + 1) (n : Int) = some (cnt n) := by
  unfold spec_Counted0.f
  exact counted_l n hn n (n + 1) 0 (by omega) (by omega) (by omega)
def outB (acc : List Int) : Option (List Int) → List Int × Bool
  | some r => (acc ++ r, true)
  | none => ([], false)
theorem batched_l (l b : List Int) (hl : l.length ≤ 1000000) (hb : b.length ≤ 50) (hw : ∀ x ∈ b, -9223372036854775808 ≤ x ∧ x ≤ 9223372036854775807) (d : Nat) : ∀ (k i p : Nat) (acc : List Int), i ≤ b.length → b.length - i = d → 3 * d < k → p ≤ l.length → acc.length ≤ p →
    spec_Batched.l0 k l acc (p : Int) b (b.length : Int) (i : Int) = some (outB acc (takes (l.drop p) (b.drop i))) := by
  induction d with
  | zero =>
    intro k i p acc h1 h2 h3 h4 h5
    obtain ⟨k, rfl⟩ : ∃ m, k = m + 1 := ⟨k - 1, by omega⟩
    obtain rfl : i = b.length := by omega
    simp only [spec_Batched.l0]
    rw [if_neg (by omega), List.drop_length]
    simp [takes, outB]
  | succ d ih =>
    intro k i p acc h1 h2 h3 h4 h5
    obtain ⟨k, rfl⟩ : ∃ m, k = m + 3 := ⟨k - 3, by omega⟩
    have hi : i < b.length := by omega
    have c1 : (i : Int) < (b.length : Int) := by omega
    have c2 : (0 : Int) ≤ (i : Int) := by omega
    have e1 := Aside0.mk (show wrap64 ((i : Int) + 1) = ((i + 1 : Nat) : Int) by unfold wrap64; omega)
    have e2 := Aside0.mk (show wrap64 ((l.length : Int) - (p : Int)) = (l.length : Int) - p by unfold wrap64; omega)
    obtain ⟨x, hx, hd, hw1, hw2⟩ : ∃ x, Aside0 (rd b (i : Int) = x) ∧ Aside0 (b.drop i = x :: b.drop (i + 1)) ∧ -9223372036854775808 ≤ x ∧ x ≤ 9223372036854775807 :=
      ⟨b[i], ⟨by simp [rd, List.getD_eq_getElem?_getD, List.getElem?_eq_getElem hi]⟩, ⟨by rw [List.drop_eq_getElem_cons hi]⟩, hw _ (List.getElem_mem hi)⟩
    clear hw
    simp only [spec_Batched.l0]
    rw [if_pos c1, if_pos c2, if_pos c1, hx.out, hd.out]
    unfold takes
    rw [List.length_drop]
    by_cases hneg : x < 0
    · rw [if_pos hneg]
      simp only [spec_Batched.j1]
      by_cases hmin : x = -9223372036854775808
      · have e3 : wrap64 (-x) < 0 := by unfold wrap64; omega
        rw [if_pos e3]
        simp only [spec_Batched.j2]
        rw [if_neg (show ¬ x.natAbs ≤ l.length - p by omega)]
        rfl
      · have e3 : wrap64 (-x) = -x := by unfold wrap64; omega
        rw [e3, if_neg (by omega), e2.out]
        by_cases hfit : x.natAbs ≤ l.length - p
        · rw [if_pos hfit, decide_eq_false (by omega)]
          simp only [spec_Batched.j2]
          have e4 : wrap64 ((p : Int) + -x) = ((p + x.natAbs : Nat) : Int) := by unfold wrap64; omega
          rw [if_neg (by simp), if_neg (by omega), e1.out, e4, ih k (i + 1) (p + x.natAbs) acc (by omega) (by omega) (by omega) (by omega) (by omega), List.drop_drop, if_neg (by omega)]
          cases takes (l.drop (p + x.natAbs)) (b.drop (i + 1)) <;> simp [outB]
        · rw [if_neg hfit, decide_eq_true (by omega)]
          simp only [spec_Batched.j2]
          rfl
    · rw [if_neg hneg]
      simp only [spec_Batched.j1]
      rw [if_neg hneg, e2.out]
      by_cases hfit : x.natAbs ≤ l.length - p
      · rw [if_pos hfit, decide_eq_false (by omega)]
        simp only [spec_Batched.j2]
        have e4 : wrap64 ((p : Int) + x) = ((p + x.natAbs : Nat) : Int) := by unfold wrap64; omega
        rw [if_neg (by simp), e1.out, e4]
        by_cases h0 : 0 < x
        · rw [if_pos h0, if_pos (by omega), if_pos (by omega), if_pos (by omega), if_pos h0]
          have e5 : (l.take ((p + x.natAbs : Nat) : Int).toNat).drop (p : Int).toNat = (l.drop p).take x.natAbs := by
            rw [Int.toNat_natCast, Int.toNat_natCast, List.drop_take]
            congr 1
            omega
          have e6 : ((l.drop p).take x.natAbs).length = x.natAbs := by rw [List.length_take, List.length_drop]; omega
          rw [e5, if_pos (by rw [e6]; omega), ih k (i + 1) (p + x.natAbs) _ (by omega) (by omega) (by omega) (by omega) (by rw [List.length_append, e6]; omega), List.drop_drop]
          cases takes (l.drop (p + x.natAbs)) (b.drop (i + 1)) <;> simp [outB]
        · rw [if_neg h0, ih k (i + 1) (p + x.natAbs) acc (by omega) (by omega) (by omega) (by omega) (by omega), List.drop_drop, if_neg h0]
          cases takes (l.drop (p + x.natAbs)) (b.drop (i + 1)) <;> simp [outB]
      · rw [if_neg hfit, decide_eq_true (by omega)]
        simp only [spec_Batched.j2]
        rfl
theorem batched_f (l b : List Int) (hl : l.length ≤ 1000000) (hw : ∀ x ∈ b, -9223372036854775808 ≤ x ∧ x ≤ 9223372036854775807) : spec_Batched.f (3 * b.length + 1) l b = some (outB [] (bat l b)) := by
  unfold spec_Batched.f bat
  by_cases h : 50 < b.length
  · rw [if_pos (by omega), if_pos h]
    rfl
  · rw [if_neg (by omega), if_neg h]
    have := batched_l l b hl (by omega) hw b.length (3 * b.length + 1) 0 0 [] (by omega) (by omega) (by omega) (by omega) (by simp)
    simpa using this

end Go.Proofs.Ytbghkoalmjfpiaa.Plain
