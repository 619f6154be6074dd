/- The law on comparisons of one type: its Go text returns true. -/
import Derived.Test.YtmdmpdbnnegpiaaGreatDoorCmIF
import Derived.Test.YtmdmpdbnnegpiaaGreatDoorCmR4F
namespace Go.Proofs.YtmdmpdbnnegpiaaGreatDoor.Cmp
open Go.RowKit Go.Proofs.YtmdmpdbnnegpiaaGreatDoorW.PrintWords Go.Proofs.YtmdmpdbnnegpiaaGreatDoorW.PrintLast Go.Proofs.YtmdmpdbnnegpiaaGreatDoorW.PrintMore Go.Proofs.YtmdmpdbnnegpiaaGreatDoor.PbitsDue
set_option linter.unusedVariables false
set_option linter.unusedSimpArgs false

theorem enters {f : FuncId} {fn : Func} (hf : Tryz.prog.funcs[f]? = some fn) (hname : (fn.name == "runtime.NumGoroutine") = false) {c : Code} (hb : fn.body = some c) (args : Array Value) (W : World) : (callFunc f args).run Tryz.prog W = .ok (.enter f args) W := by
  have h1 : fn.name ≠ "runtime.NumGoroutine" := by simpa using hname
  simp [callFunc, hf, h1, hb]
/-- Which lists are compared. -/
def Pair (how m : Nat) (xs ys : List Int) : Prop := (how = 0 ∧ xs.length = m ∧ ys.length = m) ∨ (how = 1 ∧ xs.length = m ∧ 0 < ys.length ∧ ys.length ≤ 300) ∨ (how = 2 ∧ ys.length = m ∧ 0 < xs.length ∧ xs.length ≤ 300)
theorem numCF (o how m : Nat) (ho : o ≤ 3) (xs ys : List Int) (hx : ∀ x ∈ xs, OkF x) (hy : ∀ x ∈ ys, OkF x) (hm : m ≤ 300) (hp : Pair how m xs ys) :
    NumCF o how m xs ys (fun i => cmpF o (xs.getD (px how i) 0) (ys.getD (py how i) 0)) := by
  intro A1 A2 A n1 c1 n2 c2 g nb cb fr bs T rest w h1 h2 hc1 hc2 hM hA hw hb hbl hnc hf hr hnb g4 hgl
  have h : o = 0 ∨ o = 1 ∨ o = 2 ∨ o = 3 := by omega
  rcases hp with ⟨rfl, hl, hl2⟩ | ⟨rfl, hl, hl2, hl3⟩ | ⟨rfl, hl, hl2, hl3⟩
  · rcases h with rfl | rfl | rfl | rfl
    · exact numF0 0 _ _ _ (cmpF 0) getOp0F (enters Tryz.func55 (by kernel_rfl) rfl) aaF0 A1 A2 A n1 c1 n2 c2 g nb cb fr m xs ys bs T rest w h1 h2 hc1 hc2 hx hy hl hl2 hm hM hA hw hb hbl hnc hf hr hnb g4 hgl
    · exact numF0 1 _ _ _ (cmpF 1) getOp1F (enters Tryz.func58 (by kernel_rfl) rfl) aaF1 A1 A2 A n1 c1 n2 c2 g nb cb fr m xs ys bs T rest w h1 h2 hc1 hc2 hx hy hl hl2 hm hM hA hw hb hbl hnc hf hr hnb g4 hgl
    · exact numF0 2 _ _ _ (cmpF 2) getOp2F (enters Tryz.func61 (by kernel_rfl) rfl) aaF2 A1 A2 A n1 c1 n2 c2 g nb cb fr m xs ys bs T rest w h1 h2 hc1 hc2 hx hy hl hl2 hm hM hA hw hb hbl hnc hf hr hnb g4 hgl
    · exact numF0 3 _ _ _ (cmpF 3) getOp3F (enters Tryz.func64 (by kernel_rfl) rfl) aaF3 A1 A2 A n1 c1 n2 c2 g nb cb fr m xs ys bs T rest w h1 h2 hc1 hc2 hx hy hl hl2 hm hM hA hw hb hbl hnc hf hr hnb g4 hgl
  · rcases h with rfl | rfl | rfl | rfl
    · exact numF1 0 _ _ _ (cmpF 0) getOp0F (enters Tryz.func56 (by kernel_rfl) rfl) asF0 A1 A2 A n1 c1 n2 c2 g nb cb fr m xs ys bs T rest w h1 h2 hc1 hc2 hx hy hl hl2 hl3 hm hM hA hw hb hbl hnc hf hr hnb g4 hgl
    · exact numF1 1 _ _ _ (cmpF 1) getOp1F (enters Tryz.func59 (by kernel_rfl) rfl) asF1 A1 A2 A n1 c1 n2 c2 g nb cb fr m xs ys bs T rest w h1 h2 hc1 hc2 hx hy hl hl2 hl3 hm hM hA hw hb hbl hnc hf hr hnb g4 hgl
    · exact numF1 2 _ _ _ (cmpF 2) getOp2F (enters Tryz.func62 (by kernel_rfl) rfl) asF2 A1 A2 A n1 c1 n2 c2 g nb cb fr m xs ys bs T rest w h1 h2 hc1 hc2 hx hy hl hl2 hl3 hm hM hA hw hb hbl hnc hf hr hnb g4 hgl
    · exact numF1 3 _ _ _ (cmpF 3) getOp3F (enters Tryz.func65 (by kernel_rfl) rfl) asF3 A1 A2 A n1 c1 n2 c2 g nb cb fr m xs ys bs T rest w h1 h2 hc1 hc2 hx hy hl hl2 hl3 hm hM hA hw hb hbl hnc hf hr hnb g4 hgl
  · rcases h with rfl | rfl | rfl | rfl
    · exact numF2 0 _ _ _ (cmpF 0) getOp0F (enters Tryz.func57 (by kernel_rfl) rfl) saF0 A1 A2 A n1 c1 n2 c2 g nb cb fr m xs ys bs T rest w h1 h2 hc1 hc2 hx hy hl hl2 hl3 hm hM hA hw hb hbl hnc hf hr hnb g4 hgl
    · exact numF2 1 _ _ _ (cmpF 1) getOp1F (enters Tryz.func60 (by kernel_rfl) rfl) saF1 A1 A2 A n1 c1 n2 c2 g nb cb fr m xs ys bs T rest w h1 h2 hc1 hc2 hx hy hl hl2 hl3 hm hM hA hw hb hbl hnc hf hr hnb g4 hgl
    · exact numF2 2 _ _ _ (cmpF 2) getOp2F (enters Tryz.func63 (by kernel_rfl) rfl) saF2 A1 A2 A n1 c1 n2 c2 g nb cb fr m xs ys bs T rest w h1 h2 hc1 hc2 hx hy hl hl2 hl3 hm hM hA hw hb hbl hnc hf hr hnb g4 hgl
    · exact numF2 3 _ _ _ (cmpF 3) getOp3F (enters Tryz.func66 (by kernel_rfl) rfl) saF3 A1 A2 A n1 c1 n2 c2 g nb cb fr m xs ys bs T rest w h1 h2 hc1 hc2 hx hy hl hl2 hl3 hm hM hA hw hb hbl hnc hf hr hnb g4 hgl
def Fine (w : World) (e : Ending) (w' : World) : Prop := e = .returned (.bool true) ∧ Below w.heap.size w w'
theorem three_at (w : World) (o1 o2 o3 : Obj) : (((w.alloc o1).alloc o2).alloc o3).heap[w.heap.size]? = some o1 ∧ (((w.alloc o1).alloc o2).alloc o3).heap[w.heap.size + 1]? = some o2 ∧ (((w.alloc o1).alloc o2).alloc o3).heap[w.heap.size + 1 + 1]? = some o3 := by
  have h := two_blocks w o1 o2
  have h3 := heap_alloc_new ((w.alloc o1).alloc o2) o3
  exact ⟨(Below.heap_alloc _ _ _ (block_lt h.1)).trans h.1, (Below.heap_alloc _ _ _ (block_lt h.2)).trans h.2, by simpa using h3⟩
theorem one_reads (k : IntKind) (x : Int) (w : World) (g : Nat) (T : TypeId) (h : w.heap[g]? = some (.cells #[.int k x] T (0, 0))) : ReadsOf (Value.int k) (0 : Int) w (some ⟨g, 0, none⟩) 1 [x] := by
  refine ⟨rfl, by omega, fun _ => ⟨_, rfl, fun j hj => ?_⟩⟩
  obtain rfl : j = 0 := by omega
  rw [add_plain, cell_of_row _ _ 0 _ T (0, 0) h]
  rfl
/-- The law's own first call. -/
def First (w : World) (e : Ending) (w' : World) : Prop := ∃ g c x, e = .returned (.tuple #[.slice (some ⟨g, 0, none⟩) 1 c, .bool true]) ∧ w'.cell? ⟨g, 0, none⟩ = some (.int .u8 x) ∧ Go.bits .and .u8 x 1 = 1 ∧ Below w.heap.size w w'
theorem firstF (w : World) (hM : Masks w) : Calls Tryz.prog 5 #[.int .i64 0, .int .i64 0, .slice (some ⟨w.heap.size, 0, none⟩) 1 1, .slice (some ⟨w.heap.size + 1, 0, none⟩) 1 1, .slice (some ⟨w.heap.size + 1 + 1, 0, none⟩) 1 1, .int .i64 0]
    (((w.alloc (.cells #[.int .u64 4607182418800017408] 26)).alloc (.cells #[.int .u64 4607182418800017408] 26)).alloc (.cells #[.int .u8 0] 5)) (First w) := by
  obtain ⟨h1, h2, h3⟩ := three_at w (.cells #[.int .u64 4607182418800017408] 26) (.cells #[.int .u64 4607182418800017408] 26) (.cells #[.int .u8 0] 5)
  have hb : Below w.heap.size w (((w.alloc (.cells #[.int .u64 4607182418800017408] 26)).alloc (.cells #[.int .u64 4607182418800017408] 26)).alloc (.cells #[.int .u8 0] 5)) := by repeat (first | exact Below.refl _ _ | apply below_alloc)
  have hok : ∀ x ∈ [(4607182418800017408 : Int)], OkF x := fun x hx => by rw [List.mem_singleton.1 hx]; exact ⟨by decide, by decide⟩
  refine (cmpImpF 0 0 1 0 1 1 1 1 1 1 [4607182418800017408] [4607182418800017408] [0] _ _ _ _ _ (numCF 0 0 1 (by omega) [4607182418800017408] [4607182418800017408] hok hok (by omega) (.inl ⟨rfl, rfl, rfl⟩)) (by omega) (one_reads .u64 4607182418800017408 _ _ 26 h1) (one_reads .u64 4607182418800017408 _ _ 26 h2) (Kd.C_of_reads (d := (0 : Int)) (enc := Value.int .u8) (h1 := fun _ => rfl) (one_reads .u8 0 _ _ 5 h3)) hok hok (fun b hb => by rw [List.mem_singleton.1 hb]; decide) (by omega) (by omega) (by omega) (hM.below hb (by have := hM.lt; omega)) (by omega) (by omega)).mono ?_
  rintro e w' ⟨A', c', bs', rfl, hg, _, hC, hbits, hb2⟩
  obtain ⟨g, rfl⟩ := hg (by omega)
  have hl : bs'.length = 1 := hbits.len
  obtain ⟨x, rfl⟩ : ∃ x, bs' = [x] := by
    match bs', hl with
    | [x], _ => exact ⟨x, rfl⟩
  obtain ⟨_, _, hr⟩ := Kd.reads_of_C (d := (0 : Int)) (enc := Value.int .u8) (h1 := fun _ => rfl) hC
  obtain ⟨a, ea, hc⟩ := hr (by omega)
  cases ea
  have h0 := hc 0 (by omega)
  rw [add_plain] at h0
  have hbit := hbits.bit 0 (by decide)
  have hone : cmpF 0 4607182418800017408 4607182418800017408 = true := by first | rfl | decide +kernel
  have hx := hbits.byt x (by simp)
  refine ⟨g, c', x, rfl, h0, ?_, hb.trans (hb2.mono (by simp <;> omega))⟩
  obtain ⟨a, rfl⟩ := Int.eq_ofNat_of_zero_le hx.1
  rw [show (1 : Int) = ((1 : Nat) : Int) from rfl, and_nat .u8 8 (Nat.le_refl _) wraps_u8 a 1 (by omega) (by decide), Nat.and_one_is_mod]
  have hb0 : a.testBit 0 = true := by
    have e : bitAt [((a : Nat) : Int)] 0 = a.testBit 0 := rfl
    rw [← e, hbit]
    exact hone
  rw [Nat.testBit_zero] at hb0
  have := of_decide_eq_true hb0
  omega
theorem due_calls (A0 : Option Addr) (c0 : Nat) (bs : List Int) (A1 : Option Addr) (c1 : Nat) (bs' : List Int) (fr n nd : Nat) (A3 : Option Addr) (c3 : Nat) (f : Nat → Bool) (w : World) (hl : bs.length = nd) (hr0 : Kd.C (Kd.int .u8) w A0 nd bs) (hc0 : nd ≤ c0) (hr1 : Kd.C (Kd.int .u8) w A1 nd bs') (hc1 : nd ≤ c1) (hr3 : Kd.C Kd.bool w A3 n ((List.range n).map f)) (hc3 : n ≤ c3)
    (hb : Bytes bs) (h : BitsAre bs bs' fr n f) (hn : fr + n ≤ 8 * nd) (hs : nd ≤ 1000) : Calls Tryz.prog 10 #[.slice A0 nd c0, .slice A1 nd c1, .int .i64 fr, .slice A3 n c3] w fun e w' => e = .returned (.bool true) ∧ Drawn0 w w' := by
  subst hl
  have hl2 := h.len
  have hl3 : ((List.range n).map f).length = n := by simp
  have hd := laws_bitsDue.calls (fr + n + 2) A0 c0 bs A1 c1 bs' fr A3 c3 ((List.range n).map f) true w hr0 hc0 (by rw [hl2]; exact hr1) (by rw [hl2]; exact hc1) (by rw [hl3]; exact hr3) (by rw [hl3]; exact hc3) (due_f bs bs' hb fr n f h hn hs)
  rw [hl2, hl3] at hd
  exact hd
set_option maxRecDepth 100000 in
set_option maxHeartbeats 4000000 in
theorem lawF_big (op how fr : Int) (A B D : Option Addr) (na ca nb cb nd cd : Nat) (w : World) (h : 2147483647 < na ∨ 2147483647 < nb ∨ 2147483647 < nd) :
    Calls Tryz.prog 3 #[.int .i64 op, .int .i64 how, .slice A na ca, .slice B nb cb, .slice D nd cd, .int .i64 fr] w (Fine w) := by
  by_cases h1 : (2147483647 : Int) < na
  · go_enter Tryz.func3, Tryz.ntmps3
    go_wp2_with fail
    go_ret
    exact ⟨rfl, Below.refl _ _⟩
  · by_cases h2 : (2147483647 : Int) < nb
    · go_enter Tryz.func3, Tryz.ntmps3
      go_wp2_with fail
      go_ret
      exact ⟨rfl, Below.refl _ _⟩
    · have h3 : (2147483647 : Int) < nd := by omega
      clear h
      go_enter Tryz.func3, Tryz.ntmps3
      go_wp2_with fail
      go_ret
      exact ⟨rfl, Below.refl _ _⟩
set_option maxRecDepth 100000 in
set_option maxHeartbeats 8000000 in
theorem lawF_any (op how fr : Int) (A B D : Option Addr) (na ca nb cb nd cd : Nat) (xs ys bs : List Int) (w : World) (hA : ReadsOf (Value.int .u64) (0 : Int) w A na xs) (hB : ReadsOf (Value.int .u64) (0 : Int) w B nb ys) (hD : Kd.C (Kd.int .u8) w D nd bs) (hdc : nd ≤ cd)
    (hx : ∀ x ∈ xs, 0 ≤ x ∧ x < 18446744073709551616) (hy : ∀ x ∈ ys, 0 ≤ x ∧ x < 18446744073709551616) (hby : Bytes bs) (hM : Masks w) (s1 : na ≤ 2147483647) (s2 : nb ≤ 2147483647) (s3 : nd ≤ 2147483647) :
    Calls Tryz.prog 3 #[.int .i64 op, .int .i64 how, .slice A na ca, .slice B nb cb, .slice D nd cd, .int .i64 fr] w (Fine w) := by
  have HA := Aside0.mk hA
  have HB := Aside0.mk hB
  have HD := Aside0.mk hD
  have HX := Aside0.mk (And.intro hx hy)
  have HM := Aside0.mk (And.intro hby hM)
  have HF := Aside0.mk (firstF w hM)
  have HV1 := Aside0.mk (fun (W : World) (hb : Below w.heap.size w W) => asValsF A na ca xs W (hA.below hb) s1 hx)
  have HV2 := Aside0.mk (fun (W : World) (hb : Below w.heap.size w W) => asValsF B nb cb ys W (hB.below hb) s2 hy)
  have HPR := Aside0.mk (fun (W : World) => pairs2_any how na nb W)
  clear hA hB hD hx hy hby hM
  have hb64 := fun (n : Nat) (W : World) => bits64 n W
  go_enter Tryz.func3, Tryz.ntmps3
  go_upto_region 4 with (go_at_call 5; refine HF.out.mono ?_; rintro e w1 ⟨g, c1, x, rfl, hc, hand, hb⟩; have HB1 := Aside0.mk hb; clear hb HF)
  go_upto_region 8 with (first
    | (go_at_call 7; refine (HPR.out _).mono ?_; rintro e w2 ⟨rfl, n, b, rfl, hpr⟩; have HPP := Aside0.mk hpr; clear hpr HPR)
    | (have hq := HB3.out; clear hq; go_at_call 8; refine (HV2.out _ HB3.out).mono ?_; rintro e w4 ⟨v2, b2, rfl, hv2, hb4⟩; have HVV2 := Aside0.mk hv2; have HB34 := Aside0.mk hb4; have HB4 := Aside0.mk (HB3.out.trans (hb4.mono HB3.out.size)); clear hv2 hb4 HV2)
    | (go_at_call 8; refine (HV1.out _ HB1.out).mono ?_; rintro e w3 ⟨v1, b1, rfl, hv1, hb3⟩; have HVV1 := Aside0.mk hv1; have HB3 := Aside0.mk (HB1.out.trans (hb3.mono HB1.out.size)); clear hv1 hb3 HV1))
  cases b
  · go_wp2_with fail
    go_ret
    exact ⟨rfl, HB4.out⟩
  cases b1
  · go_wp2_with fail
    go_ret
    exact ⟨rfl, HB4.out⟩
  cases b2
  · go_wp2_with fail
    go_ret
    exact ⟨rfl, HB4.out⟩
  by_cases ho0 : op < 0
  · go_wp2_with fail
    go_ret
    exact ⟨rfl, HB4.out⟩
  by_cases ho3 : 3 < op
  · go_wp2_with fail
    go_ret
    exact ⟨rfl, HB4.out⟩
  have HRO := Aside0.mk (fun (W : World) => room_any D nd cd fr n W)
  go_upto_if 104 with (go_at_call 9; refine (HRO.out _).mono ?_; rintro e w5 ⟨rfl, b3, rfl, hrm⟩; have HRM := Aside0.mk hrm; clear hrm HRO)
  cases b3
  · go_wp2_with fail
    go_ret
    exact ⟨rfl, HB4.out⟩
  obtain ⟨hr1, hok1, hxok⟩ := HVV1.out (by trivial)
  obtain ⟨hr2, hok2, hyok⟩ := HVV2.out (by trivial)
  obtain ⟨f0, f7, m300, n100, hro⟩ := HRM.out (by trivial)
  have hpp := HPP.out (by trivial)
  obtain ⟨o, rfl⟩ := Int.eq_ofNat_of_zero_le (show 0 ≤ op by omega)
  obtain ⟨fr, rfl⟩ := Int.eq_ofNat_of_zero_le f0
  have hlx := HA.out.1
  have hly := HB.out.1
  obtain ⟨h, m, rfl, rfl, hp⟩ : ∃ h m : Nat, how = (h : Int) ∧ n = (m : Int) ∧ Pair h m xs ys ∧ h ≤ 2 := by
    rcases hpp with ⟨e1, e2, e3⟩ | ⟨e1, e2, e3⟩ | ⟨e1, e2, e3⟩
    · exact ⟨0, na, e1, e2, .inl ⟨rfl, hlx, by omega⟩, by omega⟩
    · exact ⟨1, na, e1, e2, .inr (.inl ⟨rfl, hlx, by omega, by omega⟩), by omega⟩
    · exact ⟨2, nb, e1, e2, .inr (.inr ⟨rfl, hly, by omega, by omega⟩), by omega⟩
  have hro2 : fr + m ≤ 8 * nd := by rw [IntKind.wrap_i64] at hro; omega
  have ho : o ≤ 3 := by omega
  obtain ⟨A1, k1, rfl, hk1, hC1⟩ := Kd.R_reads hr1
  obtain ⟨A2, k2, rfl, hk2, hC2⟩ := Kd.R_reads hr2
  rw [List.length_map, hlx] at hC1 hk1
  rw [List.length_map, hly] at hC2 hk2
  have ex : (xs.map mkV).length = na := by rw [List.length_map, hlx]
  have ey : (ys.map mkV).length = nb := by rw [List.length_map, hly]
  rw [ex, ey]
  have HIM := Aside0.mk (fun (W : World) (hb : Below w.heap.size w W) => cmpImpF o h m fr na ca nb cb nd cd xs ys bs _ A B D W (numCF o h m ho xs ys hxok hyok (by omega) hp.1) ho (HA.out.below hb) (HB.out.below hb) (Kd.C_below HD.out hb) hxok hyok HM.out.1 hok1 hok2 (by omega) (HM.out.2.below hb (by have := HM.out.2.lt; omega)) (by omega) hro2)
  have hpx : ∀ i, i < m → px h i < na := fun i hi => by
    unfold px
    rcases hp.1 with ⟨e, e1, e2⟩ | ⟨e, e1, e2, _⟩ | ⟨e, e1, e2, _⟩
    · rw [if_neg (by omega)]; omega
    · rw [if_neg (by omega)]; omega
    · rw [if_pos e]; omega
  have hpy : ∀ i, i < m → py h i < nb := fun i hi => by
    unfold py
    rcases hp.1 with ⟨e, e1, e2⟩ | ⟨e, e1, e2, _⟩ | ⟨e, e1, e2, _⟩
    · rw [if_neg (by omega)]; omega
    · rw [if_pos e]; omega
    · rw [if_neg (by omega)]; omega
  have HCD := Aside0.mk (fun (W : World) (hb : Below w4.heap.size w4 W) => compDueF o h na k1 nb k2 m A1 A2 xs ys W (Kd.C_below hC1 (HB34.out.trans (hb.mono HB34.out.size))) (Kd.C_below hC2 hb) ho hp.2 hpx hpy (by omega))
  have HFA := Aside0.mk (And.intro hro2 n100)
  clear hr1 hr2 hC1 hC2 hxok hyok hok1 hok2 hpp hp hro hro2 hpx hpy HVV1 HVV2 HRM HPP ex ey hk1 hk2 hlx hly
  have HLN := Aside0.mk (show ((List.range m).map (fun i => cmpF o (xs.getD (px h i) 0) (ys.getD (py h i) 0))).length = m by simp)
  go_wp2_with (first
    | (go_at_call 5; refine (HIM.out _ HB4.out).mono ?_; rintro e w5 ⟨A5, c5, bs5, rfl, _, hcc, hC5, hbits, hb5⟩; have HB45 := Aside0.mk hb5; have HC5 := Aside0.mk hC5; have HBT := Aside0.mk hbits; have HCC := Aside0.mk hcc; clear hb5 hC5 hbits hcc)
    | (go_at_call 11; refine (HCD.out _ HB45.out).mono ?_; rintro e w6 ⟨v6, rfl, hr6, hb6⟩; obtain ⟨A6, c6, rfl, hl6, hC6⟩ := Kd.R_reads hr6; rw [HLN.out] at hl6 hC6 ⊢; have HB56 := Aside0.mk hb6; have HC6 := Aside0.mk hC6; have HL6 := Aside0.mk hl6; clear hr6 hb6 hC6 hl6)
    | (go_at_call 10; refine (due_calls D cd bs A5 c5 bs5 fr m nd A6 c6 _ w6 HD.out.1 (Kd.C_below HD.out (HB4.out.trans ((HB45.out.trans (HB56.out.mono HB45.out.size)).mono HB4.out.size))) hdc (Kd.C_below HC5.out HB56.out) HCC.out HC6.out HL6.out HM.out.1 HBT.out HFA.out.1 (by have := HFA.out.2; omega)).mono ?_; rintro e w7 ⟨rfl, hdr⟩; have HDR := Aside0.mk hdr; clear hdr))
  go_ret
  exact ⟨rfl, HB4.out.trans (((HB45.out.trans (HB56.out.mono HB45.out.size)).trans ((HDR.out.below).mono (by have := HB45.out.size; have := HB56.out.size; omega))).mono HB4.out.size)⟩
/-- A slice that came in reads. -/
theorem reads_in {k : IntKind} {w : World} {a : Option Addr} {len cap : Nat} {zs : List Int} (h : (a = none ∧ len = 0 ∧ cap = 0 ∧ zs = []) ∨
  ∃ x, a = some x ∧ len ≤ cap ∧ cap ≤ maxLen ∧ zs.length = cap ∧ (∀ i, i < zs.length → w.cell? (x.add i) = some (.int k (zs.getD i 0))) ∧ ∀ n ∈ zs, (Lit.int k n).wf = true) :
    ReadsOf (Value.int k) (0 : Int) w a len (zs.take len) ∧ len ≤ cap ∧ ∀ x ∈ zs.take len, (Lit.int k x).wf = true := by
  rcases h with ⟨rfl, rfl, rfl, rfl⟩ | ⟨x, rfl, hl, hm, hz, hc, hw⟩
  · exact ⟨⟨rfl, by omega, fun h => absurd h (by omega)⟩, Nat.le_refl _, fun x hx => by simp at hx⟩
  · unfold maxLen at hm
    refine ⟨⟨by rw [List.length_take]; omega, by omega, fun _ => ⟨x, rfl, fun j hj => ?_⟩⟩, hl, fun y hy => hw y (List.mem_of_mem_take hy)⟩
    rw [hc j (by omega)]
    congr 2
    simp only [List.getD_eq_getElem?_getD, List.getElem?_take, if_pos hj]
theorem wf_u64 {x : Int} (h : (Lit.int .u64 x).wf = true) : 0 ≤ x ∧ x < 18446744073709551616 := by
  simp [Lit.wf, IntKind.min, IntKind.max, IntKind.signed, IntKind.bits] at h
  omega
theorem wf_u8 {x : Int} (h : (Lit.int .u8 x).wf = true) : 0 ≤ x ∧ x < 256 := by
  simp [Lit.wf, IntKind.min, IntKind.max, IntKind.signed, IntKind.bits] at h
  omega
theorem law_rowF (op how : Int) (a2 : Option Addr) (len2 cap2 : Nat) (z2 : List Int) (a3 : Option Addr) (len3 cap3 : Nat) (z3 : List Int) (a4 : Option Addr) (len4 cap4 : Nat) (z4 : List Int) (fr : Int) (w : World)
    (w2 : (a2 = none ∧ len2 = 0 ∧ cap2 = 0 ∧ z2 = []) ∨ ∃ x, a2 = some x ∧ len2 ≤ cap2 ∧ cap2 ≤ maxLen ∧ z2.length = cap2 ∧ (∀ i, i < z2.length → w.cell? (x.add i) = some (.int .u64 (z2.getD i 0))) ∧ ∀ n ∈ z2, (Lit.int .u64 n).wf = true)
    (w3 : (a3 = none ∧ len3 = 0 ∧ cap3 = 0 ∧ z3 = []) ∨ ∃ x, a3 = some x ∧ len3 ≤ cap3 ∧ cap3 ≤ maxLen ∧ z3.length = cap3 ∧ (∀ i, i < z3.length → w.cell? (x.add i) = some (.int .u64 (z3.getD i 0))) ∧ ∀ n ∈ z3, (Lit.int .u64 n).wf = true)
    (w4 : (a4 = none ∧ len4 = 0 ∧ cap4 = 0 ∧ z4 = []) ∨ ∃ x, a4 = some x ∧ len4 ≤ cap4 ∧ cap4 ≤ maxLen ∧ z4.length = cap4 ∧ (∀ i, i < z4.length → w.cell? (x.add i) = some (.int .u8 (z4.getD i 0))) ∧ ∀ n ∈ z4, (Lit.int .u8 n).wf = true) (hM : Masks w) :
    Calls Tryz.prog 3 #[.int .i64 op, .int .i64 how, .slice a2 len2 cap2, .slice a3 len3 cap3, .slice a4 len4 cap4, .int .i64 fr] w (Fine w) := by
  by_cases hbig : 2147483647 < len2 ∨ 2147483647 < len3 ∨ 2147483647 < len4
  · exact lawF_big op how fr a2 a3 a4 len2 cap2 len3 cap3 len4 cap4 w hbig
  · obtain ⟨r2, _, k2⟩ := reads_in w2
    obtain ⟨r3, _, k3⟩ := reads_in w3
    obtain ⟨r4, h4, k4⟩ := reads_in w4
    exact lawF_any op how fr a2 a3 a4 len2 cap2 len3 cap3 len4 cap4 _ _ _ w r2 r3 (Kd.C_of_reads (d := (0 : Int)) (enc := Value.int .u8) (h1 := fun _ => rfl) r4) h4 (fun x hx => wf_u64 (k2 x hx)) (fun x hx => wf_u64 (k3 x hx)) (fun x hx => wf_u8 (k4 x hx)) hM (by omega) (by omega) (by omega)

end Go.Proofs.YtmdmpdbnnegpiaaGreatDoor.Cmp
