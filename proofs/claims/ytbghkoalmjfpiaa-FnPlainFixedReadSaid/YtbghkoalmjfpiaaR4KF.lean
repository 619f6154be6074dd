/- The law on texts of one length that are read plainly: its Go text returns true. No condition. -/
import Derived.Test.YtbghkoalmjfpiaaR4JF
namespace Go.Proofs.Ytbghkoalmjfpiaa.Plain
open Go.RowKit Go.Proofs.YtbghkoalmjfpiaaW.PrintWords Go.Proofs.YtbghkoalmjfpiaaW.PrintLast Go.Proofs.YtbghkoalmjfpiaaW.PrintMore Go.Proofs.Ytbghkoalmjfpiaa.PBatchedValues
set_option linter.unusedVariables false
set_option linter.unusedSimpArgs false

def Fine (w : World) (e : Ending) (w' : World) : Prop := e = .returned (.bool true) ∧ Below w.heap.size w w'
theorem lit_V (w : World) (v : V) : Kd.C kV (w.alloc (.cells v.enc.toArray 34)) (some ⟨w.heap.size, 0, none⟩) 1 [v] := by
  have hb := heap_alloc_new w (.cells v.enc.toArray 34)
  refine ⟨rfl, by omega, fun _ => ⟨_, rfl, fun j p hp => ?_⟩⟩
  match j with
  | 0 =>
    simp at hp
    subst hp
    refine ⟨v.enc, rfl, rfl, fun i u hu => ?_⟩
    rw [Nat.zero_mul, Nat.zero_add, add_plain, cell_of_row _ _ i _ 34 (0, 0) hb]
    simpa using hu
  | j + 1 => simp at hp
theorem row_one {w : World} {base : Nat} {v : Value} {x : V} (h : Kd.R kV 34 w base (fun _ => True) v [x]) :
    ∃ g c, v = .slice (some ⟨g, 0, none⟩) 1 c ∧ w.cell? ⟨g, 0, none⟩ = some (.bool x.nul) ∧ w.cell? ⟨g, 1, none⟩ = some (.int .u64 x.num) ∧ w.cell? ⟨g, 2, none⟩ = some (.string x.txt) ∧ w.cell? ⟨g, 3, none⟩ = some (.slice x.kA x.kn x.kc) := by
  obtain ⟨inner, ho⟩ := Kd.R_own h
  obtain ⟨A, c, he, _, hC⟩ := Kd.R_reads h
  obtain ⟨g, cap, hv, _, _⟩ := ho.form (by simp)
  rw [he] at hv
  injection hv with hA _ hc
  subst hA
  obtain ⟨ad, ea, f0, f1, f2, f3⟩ := at_V hC 0 (by simp)
  injection ea with ea
  subst ea
  have e0 : (⟨g, 0, none⟩ : Addr).add (0 * 4) = ⟨g, 0, none⟩ := by simp [Addr.add]
  rw [e0] at f0 f1 f2 f3
  exact ⟨g, c, he, f0, f1, f2, f3⟩
theorem lit_int (w : World) (x : Int) : Kd.C (Kd.int .i64) (w.alloc (.cells #[.int .i64 x] 3)) (some ⟨w.heap.size, 0, none⟩) 1 [x] := c_blk (enc := Value.int .i64) (h1 := fun _ => rfl) (0 : Int) (heap_alloc_new w _) rfl (by omega)
def tA : ByteArray := ⟨#[97]⟩
def vA : V := ⟨false, 0, tA, none, 0, 0⟩
set_option maxRecDepth 100000 in
theorem fixedT_any (wd : Int) (w : World) : Calls Try.prog 12 #[.int .i64 wd] w fun e w' => e = .returned (tv 15 wd false) ∧ Below w.heap.size w w' := by
  go_enter Try.func12, Try.ntmps12
  go_wp2
  exact bodyPost_ret (v := tv 15 wd false) (by simp [results, Try.results12, go_sem]) rfl ⟨rfl, by go_grown⟩
theorem wroteF (wd : Int) (h0 : 0 ≤ wd) (l : List V) (hs : ∀ v ∈ l, v.txt.size ≤ 200) : Wrote 15 wd false encF l := fun v hv => ⟨by have := hs v hv; rw [encF, bytesOf_length]; omega, fun W => bytes_fixed wd false v W h0 (by have := hs v hv; omega)⟩
theorem fitsF_of (wd : Int) (h0 : 0 ≤ wd) (l : List V) (hs : ∀ v ∈ l, v.txt.size ≤ maxLen) : Fits 15 wd false (fitsF wd) l := fun v hv hn W => fits_fixed wd false v W h0 hn (hs v hv)
/-! ### the law's own first call -/
theorem plainlyF_first (w : World) : Calls Try.prog 11 #[tv 15 1 false, .slice (some ⟨w.heap.size, 0, none⟩) 1 1] (w.alloc (.cells #[.bool false, .int .u64 0, .string ⟨#[97]⟩, .slice none 0 0] 34)) fun e w' =>
    ∃ A c, e = .returned (.slice A 1 c) ∧ Kd.C (Kd.int .u8) w' A 1 [97] ∧ Below w.heap.size w w' := by
  refine (plainly_any 15 1 false encF _ 1 [vA] _ (wroteF 1 (by omega) _ (fun v hv => by simp at hv; subst hv; decide)) (lit_V w vA) (by simp)).mono ?_
  rintro e w' ⟨A, n, c, rfl, hn, _, hC, hb⟩
  have e1 : [vA].flatMap encF = [97] := rfl
  rw [e1] at hn hC
  obtain rfl : n = 1 := hn
  exact ⟨A, c, rfl, hC, ((Below.refl _ _).alloc (Nat.le_refl _) _).trans (hb.mono (by simp))⟩
theorem readF_first (A : Option Addr) (c : Nat) (w : World) (h : Kd.C (Kd.int .u8) w A 1 [97]) : Calls Try.prog 10 #[.int .i64 1, .slice A 1 c, .int .i64 1, .slice (some ⟨w.heap.size, 0, none⟩) 1 1] (w.alloc (.cells #[.int .i64 1] 3)) fun e w' =>
    ∃ g c, e = .returned (.tuple #[.slice (some ⟨g, 0, none⟩) 1 c, .bool true]) ∧ w'.cell? ⟨g, 0, none⟩ = some (.bool false) ∧ w'.cell? ⟨g, 1, none⟩ = some (.int .u64 0) ∧ w'.cell? ⟨g, 2, none⟩ = some (.string ⟨#[97]⟩) ∧ w'.cell? ⟨g, 3, none⟩ = some (.slice none 0 0) ∧ Below w.heap.size w w' := by
  refine (readF 1 c 1 1 A _ [vA] [vA] [1] _ ⟨by omega, by omega, by simp, fun v hv => by simp at hv; subst hv; rfl⟩ (by decide) (Kd.C_below h ((Below.refl _ _).alloc (Nat.le_refl _) _)) (lit_int w 1) rfl (by simp) rfl).mono ?_
  rintro e w' ⟨v, rfl, hr, hb⟩
  obtain ⟨g, c', rfl, f0, f1, f2, f3⟩ := row_one hr
  exact ⟨g, c', rfl, f0, f1, f2, f3, ((Below.refl _ _).alloc (Nat.le_refl _) _).trans (hb.mono (by simp))⟩
/-! ### the law -/
set_option maxRecDepth 100000 in
theorem lawF_big (wd cut : Int) (A B : Option Addr) (n nb c d : Nat) (w : World) (h : 2147483647 < n ∨ 2147483647 < nb) : Calls Try.prog 3 #[.int .i64 wd, .slice A n c, .int .i64 cut, .slice B nb d] w (Fine w) := by
  by_cases h1 : 2147483647 < n
  · clear h
    go_enter Try.func3, Try.ntmps3
    go_wp2_with fail
    go_ret
    exact ⟨rfl, Below.refl _ _⟩
  · have h2 : 2147483647 < nb := by omega
    clear h
    go_enter Try.func3, Try.ntmps3
    go_wp2_with fail
    go_ret
    exact ⟨rfl, Below.refl _ _⟩
set_option maxRecDepth 100000 in
set_option maxHeartbeats 4000000 in
theorem lawF_wd (wd cut : Int) (A B : Option Addr) (n nb c d : Nat) (w : World) (hn : n ≤ 2147483647) (hnb : nb ≤ 2147483647) (h : wd < 1 ∨ 40 < wd) : Calls Try.prog 3 #[.int .i64 wd, .slice A n c, .int .i64 cut, .slice B nb d] w (Fine w) := by
  have HT1 := Aside0.mk True.intro
  by_cases h1 : wd < 1
  · clear h
    go_enter Try.func3, Try.ntmps3
    go_wp2_with (first | (have hg := HT1.out; clear hg; go_at_call 12; (with_reducible refine (fixedT_any _ _).mono ?_); rintro e w1 ⟨rfl, hb⟩; have HBW := Aside0.mk (show Below w.heap.size w w1 from hb); have HT2 := Aside0.mk True.intro; clear HT1 hb) | (have hg := HT2.out; clear hg; go_at_call 11; refine (plainlyF_first _).mono ?_; rintro e w2 ⟨A2, c2, rfl, hC2, hb⟩; have HC2 := Aside0.mk hC2; replace HBW := Aside0.mk (HBW.out.trans (hb.mono HBW.out.size)); have HT3 := Aside0.mk True.intro; clear HT2 hb hC2) | (have hg := HT3.out; clear hg; go_at_call 10; refine (readF_first A2 c2 _ HC2.out).mono ?_; rintro e w3 ⟨g3, c3, rfl, f0, f1, f2, f3, hb⟩; replace HBW := Aside0.mk (HBW.out.trans (hb.mono HBW.out.size)); have HT4 := Aside0.mk True.intro; clear HT3 HC2 hb) | (have hg := HT4.out; clear hg; go_at_call 13; refine (same_one 0 ⟨#[97]⟩ none none 0 0 _).mono ?_; rintro e w4 ⟨rfl, hb⟩; replace HBW := Aside0.mk (HBW.out.trans (hb.mono HBW.out.size)); clear HT4 f0 f1 f2 f3 hb))
    go_ret
    exact ⟨rfl, HBW.out⟩
  · have h2 : 40 < wd := by omega
    clear h
    go_enter Try.func3, Try.ntmps3
    go_wp2_with (first | (have hg := HT1.out; clear hg; go_at_call 12; (with_reducible refine (fixedT_any _ _).mono ?_); rintro e w1 ⟨rfl, hb⟩; have HBW := Aside0.mk (show Below w.heap.size w w1 from hb); have HT2 := Aside0.mk True.intro; clear HT1 hb) | (have hg := HT2.out; clear hg; go_at_call 11; refine (plainlyF_first _).mono ?_; rintro e w2 ⟨A2, c2, rfl, hC2, hb⟩; have HC2 := Aside0.mk hC2; replace HBW := Aside0.mk (HBW.out.trans (hb.mono HBW.out.size)); have HT3 := Aside0.mk True.intro; clear HT2 hb hC2) | (have hg := HT3.out; clear hg; go_at_call 10; refine (readF_first A2 c2 _ HC2.out).mono ?_; rintro e w3 ⟨g3, c3, rfl, f0, f1, f2, f3, hb⟩; replace HBW := Aside0.mk (HBW.out.trans (hb.mono HBW.out.size)); have HT4 := Aside0.mk True.intro; clear HT3 HC2 hb) | (have hg := HT4.out; clear hg; go_at_call 13; refine (same_one 0 ⟨#[97]⟩ none none 0 0 _).mono ?_; rintro e w4 ⟨rfl, hb⟩; replace HBW := Aside0.mk (HBW.out.trans (hb.mono HBW.out.size)); clear HT4 f0 f1 f2 f3 hb))
    go_ret
    exact ⟨rfl, HBW.out⟩

end Go.Proofs.Ytbghkoalmjfpiaa.Plain
