/- Rounding to a multiple: the package's call. -/
import Derived.Test.YtkfnllonahlfeaaRfK
namespace Go.Proofs.Ytkfnllonahlfeaa.Rf
open Go.RowKit Ieee
set_option linter.unusedVariables false
set_option linter.unusedSimpArgs false

theorem enters {f : FuncId} {fn : Func} (hf : Try.prog.funcs[f]? = some fn) (hname : (fn.name == "runtime.NumGoroutine") = false) {c : Code} (hb : fn.body = some c) (args : Array Value) (W : World) : (callFunc f args).run Try.prog W = .ok (.enter f args) W := by
  simp [callFunc, hf, hb]
  simpa using hname
theorem enter_m (m : Nat) (hm : m ≤ 9) (args : Array Value) (W : World) : (callFunc (fnN m) args).run Try.prog W = .ok (.enter (fnN m) args) W := by
  have h : m = 0 ∨ m = 1 ∨ m = 2 ∨ m = 3 ∨ m = 4 ∨ m = 5 ∨ m = 6 ∨ m = 7 ∨ m = 8 ∨ m = 9 := by omega
  rcases h with rfl | rfl | rfl | rfl | rfl | rfl | rfl | rfl | rfl | rfl
  · exact enters Try.func21 (by kernel_rfl) rfl args W
  · exact enters Try.func22 (by kernel_rfl) rfl args W
  · exact enters Try.func24 (by kernel_rfl) rfl args W
  · exact enters Try.func26 (by kernel_rfl) rfl args W
  · exact enters Try.func28 (by kernel_rfl) rfl args W
  · exact enters Try.func29 (by kernel_rfl) rfl args W
  · exact enters Try.func30 (by kernel_rfl) rfl args W
  · exact enters Try.func31 (by kernel_rfl) rfl args W
  · exact enters Try.func32 (by kernel_rfl) rfl args W
  · exact enters Try.func34 (by kernel_rfl) rfl args W
theorem sub_zero {q : Nat} (hq : Fin q) (hr : Re q = 0) : ∃ z, D.sub q (wh .down q) = some z ∧ (FloatKind.f64.format.order z 0 == some .eq) = true := by
  obtain ⟨a, b⟩ := floor_val hq
  have hs := U_split q
  have e : U q - U (wh .down q) = 0 := by rw [b]; omega
  obtain ⟨z, h1, h2, h3⟩ := sub_exact hq a 0 0 (by rw [e]; rfl) (by decide) (by omega)
  refine ⟨z, h1, ?_⟩
  show (D.order z 0 == some .eq) = _
  rw [eq_fin h2 fin_zero.1, fin_zero.2, h3, e]
  rfl
theorem gb_set {W wr : World} {g : Nat} (h : W.grownBy wr (some g)) (v : Value) : W.grownBy (wr.setCell ⟨g, 0, none⟩ v) (some g) :=
  ⟨h.os, h.tape, h.output, by simpa [World.setCell] using h.size, fun i hi hne => (Below.heap_setCell wr ⟨g, 0, none⟩ v i (by
    rintro rfl
    exact hne rfl)).trans (h.block i hi hne)⟩
theorem gb_below {W wr w' : World} {g : Nat} (h : W.grownBy wr (some g)) (hb : Below wr.heap.size wr w') : W.grownBy w' (some g) :=
  ⟨hb.os.trans h.os, hb.tape.trans h.tape, hb.output.trans h.output, Nat.le_trans h.size hb.size, fun i hi hne => (hb.block i (Nat.lt_of_lt_of_le hi h.size)).trans (h.block i hi hne)⟩
set_option maxRecDepth 100000 in
theorem call_same (x mu q : Nat) (a : Nat) (ev : Value) (w : World) (hx : Fin x) (hq : D.div x mu = some q) (hqf : Fin q) (hr : Re q = 0) (c0 : w.cell? ⟨a, 0, none⟩ = some (.float .f64 mu)) :
    Calls Try.prog 16 #[.pointer (some ⟨a, 0, none⟩), .float .f64 x, ev] w (fun e w' => e = .returned (.float .f64 x) ∧ w = w') := by
  have hdiv := fdiv hq
  obtain ⟨z, hz, hz0⟩ := sub_zero hqf hr
  have hsub := fsub hz
  have HI := Aside0.mk (fun W => isInf_fn x hx.num W)
  rw [decide_eq_false (show rg x ≠ 9218868437227405312 by have := hx.2; omega)] at HI
  have HN := Aside0.mk (fun W => isNaN_fn x hx.num W)
  have HF := Aside0.mk (fun W => floor_fn q hqf W)
  generalize wh .down q = low at HF hsub
  clear hx hq hqf hr hz
  go_enter Try.func16, Try.ntmps16
  go_wp2_with (first | (go_at_call 7; refine (HI.out _).mono ?_; rintro e w' ⟨rfl, rfl⟩) | (go_at_call 35; refine (HN.out _).mono ?_; rintro e w' ⟨rfl, rfl⟩) | (go_at_call 12; refine (HF.out _).mono ?_; rintro e w' ⟨rfl, rfl⟩))
  go_ret
  exact ⟨rfl, rfl⟩
def NewErr (w : World) (e : Ending) (w' : World) : Prop := ∃ v, e = .returned (.iface 57 v) ∧ Below w.heap.size w w'
set_option maxRecDepth 100000 in
theorem errNew (s : ByteArray) (w : World) : Calls Try.prog 37 #[.string s] w (NewErr w) := by
  go_enter Try.func37, Try.ntmps37
  go_wp2
  go_ret
  exact ⟨_, rfl, by go_grown⟩
/-- What the package's call leaves. -/
def Called (m q d x mu eb : Nat) (w : World) (e : Ending) (w' : World) : Prop := ∃ rv p, Fin rv ∧ U rv = (if upQ m q d then Lo q + 1 else Lo q) * ONE ∧ D.mul rv mu = some p ∧ Num p ∧
  ((rg p = 9218868437227405312 ∧ e = .returned (.float .f64 x) ∧ (∃ v, w'.cell? ⟨eb, 0, none⟩ = some (.iface 57 v)) ∧ w.grownBy w' (some eb)) ∨ (rg p ≠ 9218868437227405312 ∧ e = .returned (.float .f64 p) ∧ w = w'))
set_option maxRecDepth 100000 in
set_option maxHeartbeats 2000000 in
theorem call_round (m q d x mu a eb : Nat) (hm : m ≤ 9) (w : World) (hx : Fin x) (hmu : Fin mu) (hq : D.div x mu = some q) (hqf : Fin q) (hr : Re q ≠ 0) (hd : Rest q d)
    (c0 : w.cell? ⟨a, 0, none⟩ = some (.float .f64 mu)) (c1 : w.cell? ⟨a, 1, none⟩ = some (.int .i8 m)) (c2 : w.cell? ⟨a, 2, none⟩ = some (.func (.func (fnN m)) #[] #[])) (ce : w.cell? ⟨eb, 0, none⟩ = some .nilIface) (ze : w.frozen? ⟨eb, 0, none⟩ = false) :
    Calls Try.prog 16 #[.pointer (some ⟨a, 0, none⟩), .float .f64 x, .pointer (some ⟨eb, 0, none⟩)] w (Called m q d x mu eb w) := by
  have hdiv := fdiv hq
  have hsub := fsub hd.eq
  have hd0 : (FloatKind.f64.format.order d 0 == some .eq) = false := by
    show (D.order d 0 == some .eq) = _
    rw [eq_fin hd.fin fin_zero.1, fin_zero.2]
    exact decide_eq_false (by have := hd.pos; omega)
  have t3 := (half_tests hd.fin).2.2
  have HI := Aside0.mk (fun W => isInf_fn x hx.num W)
  rw [decide_eq_false (show rg x ≠ 9218868437227405312 by have := hx.2; omega)] at HI
  have HN := Aside0.mk (fun W => isNaN_fn x hx.num W)
  have HF := Aside0.mk (fun W => floor_fn q hqf W)
  generalize wh .down q = low at HF hsub
  have hent := enter_m m hm
  have HQ := Aside0.mk (And.intro (And.intro hqf hr) (And.intro hd hmu))
  by_cases hc : 4 ≤ m ∧ hf d ≠ 0
  · have HR := Aside0.mk (fun W => near m q d hc.1 hqf hr hd hc.2 W)
    have hne : (FloatKind.f64.format.order d 4602678819172646912 != some .eq) = true := by
      unfold bne
      rw [t3, decide_eq_false (fun h => hc.2 (by unfold hf; rw [if_neg (by omega), if_neg (by omega)]))]
      rfl
    have h4 : decide ((4 : Int) ≤ (m : Int)) = true := by simp; omega
    clear hx hq hqf hr hd t3 hc hent hmu
    go_enter Try.func16, Try.ntmps16
    go_wp2_with (first | (go_at_call 7; refine (HI.out _).mono ?_; rintro e w' ⟨rfl, rfl⟩) | (go_at_call 35; refine (HN.out _).mono ?_; rintro e w' ⟨rfl, rfl⟩) | (go_at_call 12; refine (HF.out _).mono ?_; rintro e w' ⟨rfl, rfl⟩))
    refine (HR.out _).mono ?_
    rintro e w' ⟨rv, rfl, hf1, hU, rfl⟩
    obtain ⟨p, hp, hn⟩ := mul_some hf1 HQ.out.2.2
    have hmul := fmul hp
    have HIp := Aside0.mk (fun W => isInf_fn p hn W)
    have HNp := Aside0.mk (fun W => isNaN_fn p hn W)
    have HRV := Aside0.mk (And.intro (And.intro hf1 hU) (And.intro hp hn))
    have hbl := World.block_lt_of_cell? w _ ce
    dsimp only at hbl
    clear hf1 hU hp hn
    by_cases hi : rg p = 9218868437227405312
    · rw [decide_eq_true hi] at HIp
      have HII := Aside0.mk hi
      clear hi
      go_wp2_with (first
        | (go_at_call 7; refine (HIp.out _).mono ?_; rintro e w' ⟨rfl, rfl⟩)
        | (go_at_call 37; refine (errNew _ _).mono ?_; rintro e w5 ⟨v, rfl, hb5⟩; have c5 := (hb5.cell (p := ⟨eb, 0, none⟩) hbl).trans ce; have z5 := (hb5.frozen (p := ⟨eb, 0, none⟩) hbl).trans ze; have HB5 := Aside0.mk hb5; clear hb5))
      go_ret
      exact ⟨rv, p, HRV.out.1.1, HRV.out.1.2, HRV.out.2.1, HRV.out.2.2, .inl ⟨HII.out, rfl, ⟨v, World.cell?_setCell_same _ _ _ c5⟩, gb_set (gb_below (World.grownBy.refl _ _) HB5.out) _⟩⟩
    · rw [decide_eq_false hi] at HIp
      have HII := Aside0.mk hi
      clear hi
      go_wp2_with (first
        | (go_at_call 7; refine (HIp.out _).mono ?_; rintro e w' ⟨rfl, rfl⟩)
        | (go_at_call 35; refine (HNp.out _).mono ?_; rintro e w' ⟨rfl, rfl⟩))
      go_ret
      exact ⟨rv, p, HRV.out.1.1, HRV.out.1.2, HRV.out.2.1, HRV.out.2.2, .inr ⟨HII.out, rfl, rfl⟩⟩
  · have hcc : m < 4 ∨ hf d = 0 := by omega
    have HR := Aside0.mk (fun W => closure m q d hm hqf hr hd hcc W)
    by_cases h4 : 4 ≤ m
    · have h0 : hf d = 0 := by omega
      have hne : (FloatKind.f64.format.order d 4602678819172646912 != some .eq) = false := by
        unfold bne
        rw [t3, decide_eq_true (by
          unfold hf at h0
          by_cases h1 : 2 * U d < ONE
          · rw [if_pos h1] at h0; omega
          · rw [if_neg h1] at h0
            by_cases h2 : (ONE : Int) < 2 * U d
            · rw [if_pos h2] at h0; omega
            · omega)]
        rfl
      have h4' : decide ((4 : Int) ≤ (m : Int)) = true := by simp; omega
      clear hx hq hqf hr hd t3 hc hcc hmu h4 h0
      generalize fnN m = N at c2 hent HR
      go_enter Try.func16, Try.ntmps16
      go_wp2_with (first | (go_at_call 7; refine (HI.out _).mono ?_; rintro e w' ⟨rfl, rfl⟩) | (go_at_call 35; refine (HN.out _).mono ?_; rintro e w' ⟨rfl, rfl⟩) | (go_at_call 12; refine (HF.out _).mono ?_; rintro e w' ⟨rfl, rfl⟩))
      refine (HR.out _).mono ?_
      rintro e w' ⟨rv, rfl, hf1, hU, rfl⟩
      obtain ⟨p, hp, hn⟩ := mul_some hf1 HQ.out.2.2
      have hmul := fmul hp
      have HIp := Aside0.mk (fun W => isInf_fn p hn W)
      have HNp := Aside0.mk (fun W => isNaN_fn p hn W)
      have HRV := Aside0.mk (And.intro (And.intro hf1 hU) (And.intro hp hn))
      have hbl := World.block_lt_of_cell? w _ ce
      dsimp only at hbl
      clear hf1 hU hp hn
      by_cases hi : rg p = 9218868437227405312
      · rw [decide_eq_true hi] at HIp
        have HII := Aside0.mk hi
        clear hi
        go_wp2_with (first
          | (go_at_call 7; refine (HIp.out _).mono ?_; rintro e w' ⟨rfl, rfl⟩)
          | (go_at_call 37; refine (errNew _ _).mono ?_; rintro e w5 ⟨v, rfl, hb5⟩; have c5 := (hb5.cell (p := ⟨eb, 0, none⟩) hbl).trans ce; have z5 := (hb5.frozen (p := ⟨eb, 0, none⟩) hbl).trans ze; have HB5 := Aside0.mk hb5; clear hb5))
        go_ret
        exact ⟨rv, p, HRV.out.1.1, HRV.out.1.2, HRV.out.2.1, HRV.out.2.2, .inl ⟨HII.out, rfl, ⟨v, World.cell?_setCell_same _ _ _ c5⟩, gb_set (gb_below (World.grownBy.refl _ _) HB5.out) _⟩⟩
      · rw [decide_eq_false hi] at HIp
        have HII := Aside0.mk hi
        clear hi
        go_wp2_with (first
          | (go_at_call 7; refine (HIp.out _).mono ?_; rintro e w' ⟨rfl, rfl⟩)
          | (go_at_call 35; refine (HNp.out _).mono ?_; rintro e w' ⟨rfl, rfl⟩))
        go_ret
        exact ⟨rv, p, HRV.out.1.1, HRV.out.1.2, HRV.out.2.1, HRV.out.2.2, .inr ⟨HII.out, rfl, rfl⟩⟩
    · have h4' : decide ((4 : Int) ≤ (m : Int)) = false := by simp; omega
      clear hx hq hqf hr hd t3 hc hcc hmu h4
      generalize fnN m = N at c2 hent HR
      go_enter Try.func16, Try.ntmps16
      go_wp2_with (first | (go_at_call 7; refine (HI.out _).mono ?_; rintro e w' ⟨rfl, rfl⟩) | (go_at_call 35; refine (HN.out _).mono ?_; rintro e w' ⟨rfl, rfl⟩) | (go_at_call 12; refine (HF.out _).mono ?_; rintro e w' ⟨rfl, rfl⟩))
      refine (HR.out _).mono ?_
      rintro e w' ⟨rv, rfl, hf1, hU, rfl⟩
      obtain ⟨p, hp, hn⟩ := mul_some hf1 HQ.out.2.2
      have hmul := fmul hp
      have HIp := Aside0.mk (fun W => isInf_fn p hn W)
      have HNp := Aside0.mk (fun W => isNaN_fn p hn W)
      have HRV := Aside0.mk (And.intro (And.intro hf1 hU) (And.intro hp hn))
      have hbl := World.block_lt_of_cell? w _ ce
      dsimp only at hbl
      clear hf1 hU hp hn
      by_cases hi : rg p = 9218868437227405312
      · rw [decide_eq_true hi] at HIp
        have HII := Aside0.mk hi
        clear hi
        go_wp2_with (first
          | (go_at_call 7; refine (HIp.out _).mono ?_; rintro e w' ⟨rfl, rfl⟩)
          | (go_at_call 37; refine (errNew _ _).mono ?_; rintro e w5 ⟨v, rfl, hb5⟩; have c5 := (hb5.cell (p := ⟨eb, 0, none⟩) hbl).trans ce; have z5 := (hb5.frozen (p := ⟨eb, 0, none⟩) hbl).trans ze; have HB5 := Aside0.mk hb5; clear hb5))
        go_ret
        exact ⟨rv, p, HRV.out.1.1, HRV.out.1.2, HRV.out.2.1, HRV.out.2.2, .inl ⟨HII.out, rfl, ⟨v, World.cell?_setCell_same _ _ _ c5⟩, gb_set (gb_below (World.grownBy.refl _ _) HB5.out) _⟩⟩
      · rw [decide_eq_false hi] at HIp
        have HII := Aside0.mk hi
        clear hi
        go_wp2_with (first
          | (go_at_call 7; refine (HIp.out _).mono ?_; rintro e w' ⟨rfl, rfl⟩)
          | (go_at_call 35; refine (HNp.out _).mono ?_; rintro e w' ⟨rfl, rfl⟩))
        go_ret
        exact ⟨rv, p, HRV.out.1.1, HRV.out.1.2, HRV.out.2.1, HRV.out.2.2, .inr ⟨HII.out, rfl, rfl⟩⟩

end Go.Proofs.Ytkfnllonahlfeaa.Rf
