/- The law of joined run ends, for every input. No condition. -/
import Derived.Test.YtldkpgjpfhoekaaJrV2
import Derived.Test.YtldkpgjpfhoekaaJrV4
import Derived.Test.YtldkpgjpfhoekaaJrV8
import Derived.Deep.Slices
import Derived.Deep.Fields
import Derived.ChangeSame
import Derived.ChangeSlices
namespace Go.Proofs.Ytldkpgjpfhoekaa.Join
open Go.RowKit Go.Proofs.YtldkpgjpfhoekaaW.PrintWords Go.Proofs.YtldkpgjpfhoekaaW.PrintLast Go.Proofs.YtldkpgjpfhoekaaW.PrintMore Go.ChangeShapes Go.WideShapes Go.Deep
set_option linter.unusedVariables false
set_option linter.unusedSimpArgs false

theorem under28 : ∃ f0 f1 f2 f3 : Field, Try.prog.underlying 28 = some (.struct #[f0, f1, f2, f3]) ∧ f0.offset = 0 ∧ f0.type = 4 ∧ f1.offset = 1 ∧ f1.type = 24 ∧ f2.offset = 2 ∧ f2.type = 3 ∧ f3.offset = 3 ∧ f3.type = 3 :=
  ⟨_, _, _, _, Try.underlying28, rfl, rfl, rfl, rfl, rfl, rfl, rfl, rfl⟩
theorem list_of {α : Type} (z : α) (R : Nat → α → Prop) (n : Nat) (h : ∀ i, i < n → ∃ x, R i x) : ∃ l : List α, l.length = n ∧ ∀ i, i < n → R i (l.getD i z) := by
  induction n with
  | zero => exact ⟨[], rfl, fun i hi => by omega⟩
  | succ n ih =>
    obtain ⟨l, hl, hr⟩ := ih (fun i hi => h i (by omega))
    obtain ⟨x, hx⟩ := h n (by omega)
    refine ⟨l ++ [x], by simp [hl], fun i hi => ?_⟩
    by_cases he : i < n
    · have := hr i he
      simpa [List.getD_eq_getElem?_getD, List.getElem?_append_left (show i < l.length by omega)] using this
    · obtain rfl : i = n := by omega
      simpa [List.getD_eq_getElem?_getD, hl] using hx
/-- What is known of a part that came in: its bytes. -/
def InP (w : World) (p : Pt) (l : List Int) : Prop := ReadsOf (Value.int .u8) (0 : Int) w p.A p.n l ∧ p.n ≤ p.c ∧ ByteL l ∧ (-9223372036854775808 ≤ p.off ∧ p.off ≤ 9223372036854775807) ∧ (-9223372036854775808 ≤ p.len ∧ p.len ≤ 9223372036854775807)
section
variable {H : Type} {enc : TypeId × Value → H} {w : World} {base : Nat} {spare : Nat → Bool} {held : Bool}
theorem bytes_in {fuel : Nat} {v : Value} {x : DataW H × List MemPlace} (h : DataW.trod enc Try.prog w base spare held fuel 24 [v] = some x) : ∃ A n c l, v = .slice A n c ∧ ReadsOf (Value.int .u8) (0 : Int) w A n l ∧ n ≤ c ∧ ByteL l := by
  rcases open_ints Try.underlying24 Try.underlying5 (by kernel_rfl) h with ⟨hcs, _⟩ | ⟨a, l, c, zs, hcs, _, hl, hm, hz, _, hcell, hwz⟩
  · simp at hcs
    exact ⟨none, 0, 0, [], hcs, ⟨rfl, by omega, fun h => absurd h (by omega)⟩, Nat.le_refl _, fun x hx => by cases hx⟩
  · simp at hcs
    have hlz : l ≤ zs.length := by rw [hz]; split <;> omega
    refine ⟨some a, l, c, zs.take l, hcs, ⟨by rw [List.length_take]; omega, by unfold maxLen at hm; omega, fun _ => ⟨a, rfl, fun j hj => ?_⟩⟩, hl, fun x hx => ?_⟩
    · rw [hcell j (by omega)]
      simp [List.getD_eq_getElem?_getD, List.getElem?_take, hj]
    · have := hwz x (List.mem_of_mem_take hx)
      simp [Lit.wf, IntKind.min, IntKind.max, IntKind.bits, IntKind.signed] at this
      omega
set_option maxRecDepth 100000 in
theorem part_in {fuel : Nat} {cs : List Value} {x : DataW H × List MemPlace} (h : DataW.trod enc Try.prog w base spare held fuel 28 cs = some x) : ∃ (p : Pt) (l : List Int), cs = p.enc ∧ InP w p l := by
  obtain ⟨f0, f1, f2, f3, hu, o0, t0, o1, t1, o2, t2, o3, t3⟩ := under28
  obtain ⟨xs, n, _, _, hlen, hxl, hf⟩ := DataW.trod_struct hu h
  have hlen4 : cs.length = 4 := hlen.trans (by kernel_rfl)
  match cs, hlen4 with
  | [c0, c1, c2, c3], _ =>
    have k4 : Try.prog.cellsOf 4 = 1 := by kernel_rfl
    have k24 : Try.prog.cellsOf 24 = 1 := by kernel_rfl
    have k3 : Try.prog.cellsOf 3 = 1 := by kernel_rfl
    match xs, hxl with
    | [y0, y1, y2, y3], _ =>
      have g0 := hf 0 f0 rfl
      have g1 := hf 1 f1 rfl
      have g2 := hf 2 f2 rfl
      have g3 := hf 3 f3 rfl
      rw [o0, t0, k4] at g0
      rw [o1, t1, k24] at g1
      rw [o2, t2, k3] at g2
      rw [o3, t3, k3] at g3
      simp at g0 g1 g2 g3
      obtain ⟨b, hb, _⟩ := DataW.trod_bool Try.underlying4 g0
      obtain ⟨A, pn, pc, l, hs, hr, hc, hby⟩ := bytes_in g1
      obtain ⟨m, hm, _, hw⟩ := DataW.trod_int Try.underlying3 g2
      obtain ⟨m', hm', _, hw'⟩ := DataW.trod_int Try.underlying3 g3
      injection hb with hb
      injection hm with hm
      injection hm' with hm'
      subst hb hm hs hm'
      refine ⟨⟨b, A, pn, pc, m, m'⟩, l, rfl, hr, hc, hby, ?_, ?_⟩
      · simp [Lit.wf, IntKind.min, IntKind.max, IntKind.bits, IntKind.signed] at hw
        exact ⟨by show _ ≤ m; omega, by show m ≤ _; omega⟩
      · simp [Lit.wf, IntKind.min, IntKind.max, IntKind.bits, IntKind.signed] at hw'
        exact ⟨by show _ ≤ m'; omega, by show m' ≤ _; omega⟩
/-- A slice of parts that came in: nil, or a row. -/
def InParts (w : World) (a : Option Addr) (len cap : Nat) : Prop := ∃ ps rs, Args w a len cap ps rs
theorem parts_in {fuel : Nat} {a : Option Addr} {len cap : Nat} {x : DataW H × List MemPlace} (h : DataW.trod enc Try.prog w base spare held fuel 22 [.slice a len cap] = some x) : InParts w a len cap := by
  rcases open_slice Try.underlying22 h with ⟨hc, _⟩ | ⟨a', len', cap', m, n, D, Pl, hcs, _, hl, hm, hmm, _, hi⟩
  · simp at hc
    obtain ⟨rfl, rfl, rfl⟩ := hc
    exact ⟨[], [], ⟨rfl, by simp, fun h => absurd h (by simp)⟩, Nat.le_refl _, rfl, fun j hj => by omega, fun j hj => by omega⟩
  · simp at hcs
    obtain ⟨rfl, rfl, rfl⟩ := hcs
    have hlm : len ≤ m := by rw [hmm]; split <;> omega
    have k28 : Try.prog.cellsOf 28 = 4 := by kernel_rfl
    obtain ⟨l, hll, hr⟩ := list_of (pt0, ([] : List Int)) (fun i v => InP w v.1 v.2 ∧ ∀ j u, v.1.enc[j]? = some u → w.cell? (a'.add (i * 4 + j)) = some u) len (fun i hil => by
      obtain ⟨cs', hc, ht⟩ := hi i (by omega)
      rw [k28] at hc
      obtain ⟨_, hcl, hat⟩ := World.cells?_some hc
      obtain ⟨v, vl, rfl, hin⟩ := part_in ht
      refine ⟨(v, vl), hin, fun j u hu => ?_⟩
      have hj : j < 4 := by
        rcases Nat.lt_or_ge j 4 with h | h
        · exact h
        · rw [List.getElem?_eq_none (by rw [hcl]; exact h)] at hu; cases hu
      have := hat j hj
      rw [hu] at this
      rwa [Go.Deep.add_add] at this)
    have e1 : ∀ j, j < len → gp (l.map (·.1)) j = (l.getD j (pt0, [])).1 := fun j hj => by simp [gp, List.getD_eq_getElem?_getD, List.getElem?_eq_getElem (show j < l.length by omega)]
    have e2 : ∀ j, j < len → (l.map (·.2)).getD j [] = (l.getD j (pt0, [])).2 := fun j hj => by simp [List.getD_eq_getElem?_getD, List.getElem?_eq_getElem (show j < l.length by omega)]
    refine ⟨l.map (·.1), l.map (·.2), ⟨by simp [hll], by unfold maxLen at hm; omega, fun _ => ⟨a', rfl, fun j p hp => ?_⟩⟩, hl, by simp [hll], fun j hj => ?_, fun j hj => ?_⟩
    · have hjl : j < l.length := by
        have := (List.getElem?_eq_some_iff.1 hp).1
        simpa using this
      have e : (l.getD j (pt0, [])).1 = p := by
        rw [List.getElem?_map, List.getElem?_eq_getElem hjl] at hp
        simp at hp
        simp [List.getD_eq_getElem?_getD, List.getElem?_eq_getElem hjl, hp]
      obtain ⟨_, h2⟩ := hr j (by omega)
      rw [e] at h2
      exact ⟨p.enc, rfl, rfl, fun i u hu => h2 i u hu⟩
    · rw [e1 j hj, e2 j hj]
      obtain ⟨⟨a1, a2, a3, _⟩, _⟩ := hr j hj
      exact ⟨a1, a2, a3⟩
    · rw [e1 j hj]
      obtain ⟨⟨_, _, _, a4, a5⟩, _⟩ := hr j hj
      exact ⟨a4, a5⟩
end
/-- THE WALK, as the row asks it. -/
theorem walk (a0 : Option Addr) (len0 cap0 : Nat) (W : Int) (w : World) (w0 : InParts w a0 len0 cap0) (w1 : (Lit.int .i64 W).wf = true) :
    Calls Try.prog 3 #[.slice a0 len0 cap0, .int .i64 W] w fun e w' => e = .returned (.bool true) ∧ Below w.heap.size w w' := by
  obtain ⟨ps, rs, h⟩ := w0
  by_cases hf : FitsP len0 ps
  · by_cases hbad : 20 < len0 ∨ len0 = 0 ∨ (W ≠ 2 ∧ W ≠ 4 ∧ W ≠ 8)
    · exact law_off a0 len0 cap0 ps W w h.row hf hbad
    · have hz : W = 2 ∨ W = 4 ∨ W = 8 := by omega
      rcases hz with rfl | rfl | rfl
      · exact law2 a0 len0 cap0 ps rs w h hf (by omega) (by omega)
      · exact law4 a0 len0 cap0 ps rs w h hf (by omega) (by omega)
      · exact law8 a0 len0 cap0 ps rs w h hf (by omega) (by omega)
  · exact law_big a0 len0 cap0 ps W w h.row hf

end Go.Proofs.Ytldkpgjpfhoekaa.Join
