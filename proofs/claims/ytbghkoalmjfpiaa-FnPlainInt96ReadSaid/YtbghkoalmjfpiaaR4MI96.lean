/- The law on values that are read plainly, for every input. No condition. -/
import Derived.Test.YtbghkoalmjfpiaaR4LI96
import Derived.Test.YtbghkoalmjfpiaaR4N
namespace Go.Proofs.Ytbghkoalmjfpiaa.Plain
open Go.RowKit Go.Proofs.YtbghkoalmjfpiaaW.PrintWords Go.Proofs.YtbghkoalmjfpiaaW.PrintLast Go.Proofs.YtbghkoalmjfpiaaW.PrintMore Go.Proofs.Ytbghkoalmjfpiaa.PBatchedValues
set_option linter.unusedVariables false
set_option linter.unusedSimpArgs false

/-- What all of a list's values say. -/
theorem good_all {fits : V → Bool} {l : List V} (h : (l.all (good fits) && decide (l.length ≤ 500)) = true) : l.length ≤ 500 ∧ ∀ v ∈ l, v.nul = false ∧ fits v = true := by
  rw [Bool.and_eq_true] at h
  obtain ⟨h1, h2⟩ := h
  rw [List.all_eq_true] at h1
  refine ⟨of_decide_eq_true h2, fun v hv => ?_⟩
  have := h1 v hv
  simp [good] at this
  exact this
theorem same_list {r : List V} {out : V → V} (h : ∀ v ∈ r, same (out v) v) : ∀ j, j < r.length → same (gv (r.map out) j) (gv r j) := by
  intro j hj
  have e1 : gv (r.map out) j = out r[j] := by rw [gv_get _ _ (by simpa using hj)]; simp
  rw [e1, gv_get r j hj]
  exact h _ (List.getElem_mem hj)
/-- What the laws need of texts of twelve bytes, all told fit. -/
theorem factsI96 {l : List V} (h0 : 0 < l.length) (hs : l.length ≤ 500) (hg : ∀ v ∈ l, v.nul = false ∧ (fitsF 12) v = true) (hv : ∀ v ∈ l, InB v) :
    OkI96 0 l ∧ Wrote 15 12 false encI96 l ∧ 0 < (l.flatMap encI96).length ∧ (l.flatMap encI96).length ≤ 1000000 ∧ CutI96 0 l.length ((l.flatMap encI96).take ((l.flatMap encI96).length - 1)) := by
  have hr : ∀ v ∈ l, (bytesOf v.txt).length = 12 := fun v h => by
    have := (hg v h).2
    simp [fitsF] at this
    rw [bytesOf_length]
    omega
  have hl := flatI96_len l hr
  refine ⟨⟨rfl, trivial, hs, hr⟩, wroteI96 l hr, by omega, by omega, ?_⟩
  unfold CutI96
  rw [List.length_take]
  omega
theorem sameI96 {v : V} (h1 : v.nul = false) (h2 : (fitsF 12) v = true) (h3 : InB v) : same (outI96 v) v := by
  simp [fitsF] at h2
  exact ⟨rfl, h1, h2.2.1.symm, rfl, rfl, h2.1⟩
theorem lawI96_any (cut : Int) (A B : Option Addr) (n nb c d : Nat) (l : List V) (b : List Int) (w : World) (hln : l.length = n) (hl : Kd.C kV w A n l) (hc : n ≤ c) (hbn : b.length = nb) (hB : Kd.C (Kd.int .i64) w B nb b) (hd : nb ≤ d)
    (hv : ∀ v ∈ l, InB v) (hw : ∀ x ∈ b, -9223372036854775808 ≤ x ∧ x ≤ 9223372036854775807) :
    Calls Try.prog 7 #[.slice A n c, .int .i64 cut, .slice B nb d] w (Fine w) := by
  by_cases hbig : 2147483647 < n ∨ 2147483647 < nb
  · exact lawI96_big cut A B n nb c d w hbig
  · have hn : n ≤ 2147483647 := by omega
    have hnb : nb ≤ 2147483647 := by omega
    have hft := fitsI96_of l (fun v h => hv v h)
    cases hall : (l.all (good (fitsF 12)) && decide (l.length ≤ 500)) with
    | false => exact lawI96_not cut A B n nb c d l w hn hnb hln hl hft hall
    | true =>
      by_cases h0 : n = 0
      · exact lawI96_nil cut A B n nb c d l w hn hnb hln hl hft hall h0
      · by_cases hlo : cut < 0
        · exact lawI96_lo cut A B n nb c d l w hn hnb hln hl hft hall (by omega) hlo
        · by_cases hhi : 1 < cut
          · exact lawI96_hi cut A B n nb c d l w hn hnb hln hl hft hall (by omega) hhi
          · obtain ⟨hs, hg⟩ := good_all hall
            obtain ⟨ho, hwr, hm0, hms, hct⟩ := factsI96 (by omega) hs hg hv
            by_cases hcut : cut = 1
            · exact lawI96_cut cut A B n nb c d l w hn hnb hln hl hft hall (by omega) (by omega) hwr _ rfl hm0 hms hcut (by rw [← hln]; exact hct)
            · cases hbat : bat l b with
              | none => exact lawI96_none cut A B n nb c d l w hn hnb hln hl hft hall (by omega) (by omega) hwr _ rfl hm0 hms b hbn hB hc hd hw (by omega) hbat
              | some r =>
                exact lawI96_some cut A B n nb c d l w hn hnb hln hl hft hall (by omega) (by omega) hwr _ rfl hm0 hms b hbn hB hc hd hw (by omega) r hbat ho (by have := bat_len hbat; omega)
                  (same_list (fun v h => by have hm := bat_mem hbat v h; obtain ⟨a1, a2⟩ := hg v hm; exact sameI96 a1 a2 (hv v hm)))
/-- THE WALK, as the row asks it. -/
theorem walkI96 (cut : Int) (a0 : Option Addr) (len0 cap0 : Nat) (a1 : Option Addr) (len1 cap1 : Nat) (z1 : List Int) (w : World) (w0 : InVals w a0 len0 cap0)
    (w1 : (a1 = none ∧ len1 = 0 ∧ cap1 = 0 ∧ z1 = []) ∨ ∃ x, a1 = some x ∧ len1 ≤ cap1 ∧ cap1 ≤ maxLen ∧ z1.length = cap1 ∧ (∀ i, i < z1.length → w.cell? (x.add i) = some (.int .i64 (z1.getD i 0))) ∧ ∀ n ∈ z1, (Lit.int .i64 n).wf = true) :
    Calls Try.prog 7 #[.slice a0 len0 cap0, .int .i64 cut, .slice a1 len1 cap1] w fun e w' => e = .returned (.bool true) ∧ Below w.heap.size w w' := by
  obtain ⟨hc, l, hln, hl, hv⟩ := w0
  obtain ⟨b, rfl, hb, _, hw, hd⟩ := ReadsInt.ofRowC w1
  refine (lawI96_any cut a0 a1 len0 b.length cap0 cap1 l b w hln hl hc rfl (Kd.C_of_reads (d := (0 : Int)) (h1 := fun _ => rfl) hb) hd hv (fun x hx => by
    have := hw x hx
    simp [Lit.wf, IntKind.min, IntKind.max, IntKind.bits, IntKind.signed] at this
    omega)).mono fun e w' h => h

end Go.Proofs.Ytbghkoalmjfpiaa.Plain
