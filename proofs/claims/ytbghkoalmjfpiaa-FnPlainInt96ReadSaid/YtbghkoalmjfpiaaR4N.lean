/- How a list of values comes in: its cells, read field by field. -/
import Derived.Test.YtbghkoalmjfpiaaR4E
import Derived.Deep.Slices
import Derived.Deep.Fields
import Derived.ChangeSame
namespace Go.Proofs.Ytbghkoalmjfpiaa.Plain
open Go.RowKit Go.Proofs.YtbghkoalmjfpiaaW.PrintWords Go.Proofs.YtbghkoalmjfpiaaW.PrintLast Go.Proofs.YtbghkoalmjfpiaaW.PrintMore Go.Proofs.Ytbghkoalmjfpiaa.PBatchedValues Go.ChangeShapes Go.WideShapes Go.Deep
set_option linter.unusedVariables false
set_option linter.unusedSimpArgs false

theorem under34 : ∃ f0 f1 f2 f3 : Field, Try.prog.underlying 34 = some (.struct #[f0, f1, f2, f3]) ∧ f0.offset = 0 ∧ f0.type = 4 ∧ f1.offset = 1 ∧ f1.type = 32 ∧ f2.offset = 2 ∧ f2.type = 9 ∧ f3.offset = 3 ∧ f3.type = 22 :=
  ⟨_, _, _, _, Try.underlying34, rfl, rfl, rfl, rfl, rfl, rfl, rfl, rfl⟩
/-- What is known of a value that came in. -/
def InB (v : V) : Prop := 0 ≤ v.num ∧ v.num < 18446744073709551616 ∧ v.txt.size ≤ maxLen
theorem list_of {α : Type} (z : α) (R : Nat → α → Prop) (n : Nat) (h : ∀ i, i < n → ∃ x, R i x) : ∃ l : List α, l.length = n ∧ ∀ i, i < n → R i (l.getD i z) := by
  induction n with
  | zero => exact ⟨[], rfl, fun i hi => by omega⟩
  | succ n ih =>
    obtain ⟨l, hl, hr⟩ := ih (fun i hi => h i (by omega))
    obtain ⟨x, hx⟩ := h n (by omega)
    refine ⟨l ++ [x], by simp [hl], fun i hi => ?_⟩
    by_cases he : i < n
    · have := hr i he
      simpa [List.getD_eq_getElem?_getD, List.getElem?_append_left (show i < l.length by omega)] using this
    · obtain rfl : i = n := by omega
      simpa [List.getD_eq_getElem?_getD, hl] using hx
section
variable {H : Type} {enc : TypeId × Value → H} {w : World} {base : Nat} {spare : Nat → Bool} {held : Bool}
set_option maxRecDepth 100000 in
theorem val_in {fuel : Nat} {cs : List Value} {x : DataW H × List MemPlace} (h : DataW.trod enc Try.prog w base spare held fuel 34 cs = some x) : ∃ v : V, cs = v.enc ∧ InB v := by
  obtain ⟨f0, f1, f2, f3, hu, o0, t0, o1, t1, o2, t2, o3, t3⟩ := under34
  obtain ⟨xs, n, _, _, hlen, hxl, hf⟩ := DataW.trod_struct hu h
  have hlen4 : cs.length = 4 := hlen.trans (by kernel_rfl)
  match cs, hlen4 with
  | [c0, c1, c2, c3], _ =>
    have k4 : Try.prog.cellsOf 4 = 1 := by kernel_rfl
    have k32 : Try.prog.cellsOf 32 = 1 := by kernel_rfl
    have k9 : Try.prog.cellsOf 9 = 1 := by kernel_rfl
    have k22 : Try.prog.cellsOf 22 = 1 := by kernel_rfl
    match xs, hxl with
    | [y0, y1, y2, y3], _ =>
      have g0 := hf 0 f0 rfl
      have g1 := hf 1 f1 rfl
      have g2 := hf 2 f2 rfl
      have g3 := hf 3 f3 rfl
      rw [o0, t0, k4] at g0
      rw [o1, t1, k32] at g1
      rw [o2, t2, k9] at g2
      rw [o3, t3, k22] at g3
      simp at g0 g1 g2 g3
      obtain ⟨b, hb, _⟩ := DataW.trod_bool Try.underlying4 g0
      obtain ⟨m, hm, _, hw⟩ := DataW.trod_int Try.underlying32 g1
      obtain ⟨s, hs, _, hsz⟩ := DataW.trod_string Try.underlying9 g2
      have hk : ∃ A n c, [c3] = [Value.slice A n c] := by
        rcases open_slice Try.underlying22 g3 with ⟨hc, _⟩ | ⟨a, len, cap, _, _, _, _, hc, _⟩
        · exact ⟨_, _, _, hc⟩
        · exact ⟨_, _, _, hc⟩
      obtain ⟨A, kn, c, hk⟩ := hk
      injection hb with hb
      injection hm with hm
      injection hs with hs
      injection hk with hk
      subst hb hm hs hk
      refine ⟨⟨b, m, s, A, kn, c⟩, rfl, ?_⟩
      simp [Lit.wf, IntKind.min, IntKind.max, IntKind.bits, IntKind.signed] at hw
      exact ⟨by show 0 ≤ m; omega, by show m < _; omega, hsz⟩
/-- A slice of values that came in: nil, or a row. -/
def InVals (w : World) (a : Option Addr) (len cap : Nat) : Prop := len ≤ cap ∧ ∃ l : List V, l.length = len ∧ Kd.C kV w a len l ∧ ∀ v ∈ l, InB v
theorem vals_in {fuel : Nat} {a : Option Addr} {len cap : Nat} {x : DataW H × List MemPlace} (h : DataW.trod enc Try.prog w base spare held fuel 22 [.slice a len cap] = some x) : InVals w a len cap := by
  rcases open_slice Try.underlying22 h with ⟨hc, _⟩ | ⟨a', len', cap', m, n, D, Pl, hcs, _, hl, hm, hmm, _, hi⟩
  · simp at hc
    obtain ⟨rfl, rfl, rfl⟩ := hc
    exact ⟨Nat.le_refl _, [], rfl, ⟨rfl, by simp, fun h => absurd h (by simp)⟩, fun v hv => by cases hv⟩
  · simp at hcs
    obtain ⟨rfl, rfl, rfl⟩ := hcs
    have hlm : len ≤ m := by rw [hmm]; split <;> omega
    have k34 : Try.prog.cellsOf 34 = 4 := by kernel_rfl
    obtain ⟨l, hll, hr⟩ := list_of z0 (fun i v => InB v ∧ ∀ j u, v.enc[j]? = some u → w.cell? (a'.add (i * 4 + j)) = some u) len (fun i hil => by
      obtain ⟨cs', hc, ht⟩ := hi i (by omega)
      rw [k34] at hc
      obtain ⟨_, hcl, hat⟩ := World.cells?_some hc
      obtain ⟨v, rfl, hin⟩ := val_in ht
      refine ⟨v, hin, fun j u hu => ?_⟩
      have hj : j < 4 := by
        rcases Nat.lt_or_ge j 4 with h | h
        · exact h
        · rw [List.getElem?_eq_none (by rw [hcl]; exact h)] at hu; cases hu
      have := hat j hj
      rw [hu] at this
      rwa [Go.Deep.add_add] at this)
    refine ⟨hl, l, hll, ⟨hll, by unfold maxLen at hm; omega, fun _ => ⟨a', rfl, fun j p hp => ?_⟩⟩, fun v hv => ?_⟩
    · have hjl : j < l.length := (List.getElem?_eq_some_iff.1 hp).1
      have e : l.getD j z0 = p := by simp [List.getD_eq_getElem?_getD, hp]
      obtain ⟨_, h2⟩ := hr j (by omega)
      rw [e] at h2
      exact ⟨p.enc, rfl, rfl, fun i u hu => h2 i u hu⟩
    · obtain ⟨j, hj, rfl⟩ := List.getElem_of_mem hv
      have e : l.getD j z0 = l[j] := by simp [List.getD_eq_getElem?_getD, List.getElem?_eq_getElem hj]
      obtain ⟨h1, _⟩ := hr j (by omega)
      rwa [e] at h1
end

end Go.Proofs.Ytbghkoalmjfpiaa.Plain
