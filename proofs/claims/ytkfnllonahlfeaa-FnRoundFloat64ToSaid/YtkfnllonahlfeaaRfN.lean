/- The law of doubles that are rounded to a multiple. -/
import Derived.Test.YtkfnllonahlfeaaRfM
namespace Go.Proofs.Ytkfnllonahlfeaa.Rf
open Go.RowKit Ieee
set_option linter.unusedVariables false
set_option linter.unusedSimpArgs false

theorem first_div : D.div 4619567317775286272 4617315517961601024 = some 4608983858650965606 := by decide +kernel
theorem first (w : World) : Calls Try.prog 4 #[.int .u64 4619567317775286272, .int .u64 4617315517961601024, .int .i64 0] w (fun e w' => e = .returned (.tuple #[.int .u64 4617315517961601024, .bool true]) ∧ Below w.heap.size w w') := by
  have hv : Fin 4619567317775286272 := ⟨by decide +kernel, by decide +kernel⟩
  have hm : Fin 4617315517961601024 := ⟨by decide +kernel, by decide +kernel⟩
  have hq : Fin 4608983858650965606 := ⟨by decide +kernel, by decide +kernel⟩
  have hr : Re 4608983858650965606 ≠ 0 := by decide +kernel
  have hl : Lo 4608983858650965606 = 1 := by decide +kernel
  obtain ⟨d, hd⟩ := rest_of hq hr
  refine (impl_round _ _ _ d 0 (by omega) w hv hm first_div hq hr hd).mono ?_
  rintro e w' ⟨rv, p, h1, h2, h3, h4, hb, h5⟩
  have hU : U rv = ONE := by
    rw [h2, hl]
    simp [upQ, upB]
  have e1 : rv = 4607182418800017408 := U_inj h1 fin_one.1 (by rw [hU, fin_one.2]) (by rw [hU]; have := ONE_pos; omega)
  rw [e1] at h3
  have e2 : D.mul 4607182418800017408 4617315517961601024 = some 4617315517961601024 := by decide +kernel
  rw [e2] at h3
  injection h3 with h3
  subst h3
  rcases h5 with ⟨h6, _⟩ | ⟨_, h6⟩
  · exact absurd h6 (by decide +kernel)
  · exact ⟨h6, hb⟩
theorem prod_same {rv x mu p : Nat} (h1 : Fin rv) (h2 : Fin x) (h3 : Fin mu) (hU : U x = U rv) (hp : D.mul rv mu = some p) (hn : Num p) :
    ∃ b, D.mul x mu = some b ∧ Num b ∧ (rg b = 9218868437227405312 ↔ rg p = 9218868437227405312) ∧ (rg p ≠ 9218868437227405312 → (FloatKind.f64.format.order p b == some .eq) = true) := by
  by_cases h0 : U x = 0
  · obtain ⟨s, hs⟩ := mul_zero h1 h3 (by rw [← hU]; exact h0)
    obtain ⟨t, ht⟩ := mul_zero h2 h3 h0
    rw [hs] at hp
    injection hp with hp
    obtain ⟨a1, a2⟩ := word_fin s 0 (by omega)
    obtain ⟨b1, b2⟩ := word_fin t 0 (by omega)
    have z1 : U (D.word s 0) = 0 := by rw [a2]; cases s <;> simp [um]
    have z2 : U (D.word t 0) = 0 := by rw [b2]; cases t <;> simp [um]
    refine ⟨_, ht, b1.num, ?_, fun _ => ?_⟩
    · rw [← hp]
      have := a1.2
      have := b1.2
      omega
    · rw [← hp]
      show (D.order _ _ == some .eq) = true
      rw [eq_fin a1 b1, z1, z2]
      rfl
  · have e := U_inj h2 h1 hU h0
    subst e
    refine ⟨p, hp, hn, Iff.rfl, fun h => ?_⟩
    have hf : Fin p := ⟨hn.1, by have := hn.2; omega⟩
    show (D.order p p == some .eq) = true
    rw [eq_fin hf hf]
    simp
theorem read_nan {x : Nat} (h : 9218868437227405312 < rg x) : ∃ s t, D.read x = .nan s t := by
  unfold Format.read
  simp only [D_binade, D_sw, D_inf]
  unfold rg at h
  rw [if_neg (by omega), if_neg (by omega), if_neg (by omega)]
  exact ⟨_, _, rfl⟩
theorem order_nan {x y : Nat} (h : 9218868437227405312 < rg x) : D.order x y = none := by
  obtain ⟨s, t, e⟩ := read_nan h
  unfold Format.order
  rw [e]
  unfold Datum.order
  rfl
theorem num_of_gt {x : Nat} (hx : x < 2 * 9223372036854775808) (h : (FloatKind.f64.format.order x 0 == some .gt) = true) : Num x := by
  refine ⟨hx, ?_⟩
  rcases Nat.lt_or_ge 9218868437227405312 (rg x) with h2 | h2
  · have : (D.order x 0 == some .gt) = true := h
    rw [order_nan h2] at this
    cases this
  · exact h2
theorem pos_of_gt {x : Nat} (hx : Fin x) (h : (FloatKind.f64.format.order x 0 == some .gt) = true) : U x ≠ 0 := by
  have h2 : (D.order x 0 == some .gt) = true := h
  rw [gt_fin hx fin_zero.1, fin_zero.2] at h2
  have := of_decide_eq_true h2
  omega
theorem one_awake : (FloatKind.f64.format.order 4617315517961601024 4617315517961601024 == some .eq) = true := by decide +kernel
def Fine (w : World) (e : Ending) (w' : World) : Prop := e = .returned (.bool true) ∧ Below w.heap.size w w'
set_option maxRecDepth 100000 in
set_option maxHeartbeats 2000000 in
theorem law_lo (v mu : Nat) (md : Int) (w : World) (h : md < 0) : Calls Try.prog 3 #[.int .u64 v, .int .u64 mu, .int .i64 md] w (Fine w) := by
  have p1 := bits64 4619567317775286272
  have p2 := bits64 4617315517961601024
  have p3 := from64 4617315517961601024
  have p4 := from64 (v : Int)
  have p5 := from64 (mu : Int)
  rw [Int.toNat_natCast] at p4 p5
  rw [show (4617315517961601024 : Int).toNat = 4617315517961601024 from rfl] at p3
  have hone := one_awake
  go_enter Try.func3, Try.ntmps3
  go_wp2_with (first
    | (go_at_call 4; refine (first _).mono ?_; rintro e w1 ⟨rfl, hb1⟩; have HB1 := Aside0.mk hb1; clear hb1))
  go_ret
  exact ⟨rfl, HB1.out⟩
set_option maxRecDepth 100000 in
set_option maxHeartbeats 2000000 in
theorem law_hi (v mu : Nat) (md : Int) (w : World) (h : 9 < md) : Calls Try.prog 3 #[.int .u64 v, .int .u64 mu, .int .i64 md] w (Fine w) := by
  have p1 := bits64 4619567317775286272
  have p2 := bits64 4617315517961601024
  have p3 := from64 4617315517961601024
  have p4 := from64 (v : Int)
  have p5 := from64 (mu : Int)
  rw [Int.toNat_natCast] at p4 p5
  rw [show (4617315517961601024 : Int).toNat = 4617315517961601024 from rfl] at p3
  have hone := one_awake
  have h' : ¬ md < 0 := by omega
  go_enter Try.func3, Try.ntmps3
  go_wp2_with (first
    | (go_at_call 4; refine (first _).mono ?_; rintro e w1 ⟨rfl, hb1⟩; have HB1 := Aside0.mk hb1; clear hb1))
  go_ret
  exact ⟨rfl, HB1.out⟩
set_option maxRecDepth 100000 in
set_option maxHeartbeats 2000000 in
theorem law_m0 (v mu : Nat) (md : Int) (w : World) (h0 : 0 ≤ md) (h9 : md ≤ 9) (h : (FloatKind.f64.format.order mu 0 == some .gt) = false) : Calls Try.prog 3 #[.int .u64 v, .int .u64 mu, .int .i64 md] w (Fine w) := by
  have p1 := bits64 4619567317775286272
  have p2 := bits64 4617315517961601024
  have p3 := from64 4617315517961601024
  have p4 := from64 (v : Int)
  have p5 := from64 (mu : Int)
  rw [Int.toNat_natCast] at p4 p5
  rw [show (4617315517961601024 : Int).toNat = 4617315517961601024 from rfl] at p3
  have hone := one_awake
  go_enter Try.func3, Try.ntmps3
  go_wp2_with (first
    | (go_at_call 4; refine (first _).mono ?_; rintro e w1 ⟨rfl, hb1⟩; have HB1 := Aside0.mk hb1; clear hb1))
  go_ret
  exact ⟨rfl, HB1.out⟩
set_option maxRecDepth 100000 in
set_option maxHeartbeats 2000000 in
theorem law_minf (v mu : Nat) (md : Int) (w : World) (h0 : 0 ≤ md) (h9 : md ≤ 9) (hg : (FloatKind.f64.format.order mu 0 == some .gt) = true) (hmu : mu < 2 * 9223372036854775808) (h : rg mu = 9218868437227405312) : Calls Try.prog 3 #[.int .u64 v, .int .u64 mu, .int .i64 md] w (Fine w) := by
  have p1 := bits64 4619567317775286272
  have p2 := bits64 4617315517961601024
  have p3 := from64 4617315517961601024
  have p4 := from64 (v : Int)
  have p5 := from64 (mu : Int)
  rw [Int.toNat_natCast] at p4 p5
  rw [show (4617315517961601024 : Int).toNat = 4617315517961601024 from rfl] at p3
  have hone := one_awake
  have HM := Aside0.mk (fun W => isInf_fn mu (num_of_gt hmu hg) W)
  rw [decide_eq_true h] at HM
  clear h hmu
  go_enter Try.func3, Try.ntmps3
  go_wp2_with (first
    | (go_at_call 4; refine (first _).mono ?_; rintro e w1 ⟨rfl, hb1⟩; have HB1 := Aside0.mk hb1; clear hb1)
    | (go_at_call 7; (with_reducible refine (HM.out _).mono ?_); rintro e w' ⟨rfl, rfl⟩))
  go_ret
  exact ⟨rfl, HB1.out⟩
set_option maxRecDepth 100000 in
set_option maxHeartbeats 2000000 in
theorem law_nan (v mu : Nat) (md : Int) (w : World) (h0 : 0 ≤ md) (h9 : md ≤ 9) (hg : (FloatKind.f64.format.order mu 0 == some .gt) = true) (hmu : mu < 2 * 9223372036854775808) (hf : Fin mu) (h : 9218868437227405312 < rg v) : Calls Try.prog 3 #[.int .u64 v, .int .u64 mu, .int .i64 md] w (Fine w) := by
  have p1 := bits64 4619567317775286272
  have p2 := bits64 4617315517961601024
  have p3 := from64 4617315517961601024
  have p4 := from64 (v : Int)
  have p5 := from64 (mu : Int)
  rw [Int.toNat_natCast] at p4 p5
  rw [show (4617315517961601024 : Int).toNat = 4617315517961601024 from rfl] at p3
  have hone := one_awake
  have HM := Aside0.mk (fun W => isInf_fn mu (num_of_gt hmu hg) W)
  rw [decide_eq_false (show rg mu ≠ 9218868437227405312 by have := hf.2; omega)] at HM
  have hne : (FloatKind.f64.format.order v v != some .eq) = true := by
    show (D.order v v != some .eq) = true
    rw [order_nan h]
    rfl
  clear h hmu hf
  go_enter Try.func3, Try.ntmps3
  go_wp2_with (first
    | (go_at_call 4; refine (first _).mono ?_; rintro e w1 ⟨rfl, hb1⟩; have HB1 := Aside0.mk hb1; clear hb1)
    | (go_at_call 7; (with_reducible refine (HM.out _).mono ?_); rintro e w' ⟨rfl, rfl⟩))
  go_ret
  exact ⟨rfl, HB1.out⟩
set_option maxRecDepth 100000 in
set_option maxHeartbeats 2000000 in
theorem law_vinf (v mu : Nat) (md : Int) (w : World) (h0 : 0 ≤ md) (h9 : md ≤ 9) (hg : (FloatKind.f64.format.order mu 0 == some .gt) = true) (hmu : mu < 2 * 9223372036854775808) (hf : Fin mu) (hv : Num v) (h : rg v = 9218868437227405312) : Calls Try.prog 3 #[.int .u64 v, .int .u64 mu, .int .i64 md] w (Fine w) := by
  have p1 := bits64 4619567317775286272
  have p2 := bits64 4617315517961601024
  have p3 := from64 4617315517961601024
  have p4 := from64 (v : Int)
  have p5 := from64 (mu : Int)
  rw [Int.toNat_natCast] at p4 p5
  rw [show (4617315517961601024 : Int).toNat = 4617315517961601024 from rfl] at p3
  have hone := one_awake
  have HM := Aside0.mk (fun W => isInf_fn mu (num_of_gt hmu hg) W)
  rw [decide_eq_false (show rg mu ≠ 9218868437227405312 by have := hf.2; omega)] at HM
  have hne := neq_self hv
  have HV := Aside0.mk (fun W => isInf_fn v hv W)
  rw [decide_eq_true h] at HV
  clear h hmu hf hv
  go_enter Try.func3, Try.ntmps3
  go_wp2_with (first
    | (go_at_call 4; refine (first _).mono ?_; rintro e w1 ⟨rfl, hb1⟩; have HB1 := Aside0.mk hb1; clear hb1)
    | (go_at_call 7; (with_reducible refine (HM.out _).mono ?_); rintro e w' ⟨rfl, rfl⟩)
    | (go_at_call 7; (with_reducible refine (HV.out _).mono ?_); rintro e w' ⟨rfl, rfl⟩))
  go_ret
  exact ⟨rfl, HB1.out⟩
set_option maxRecDepth 100000 in
set_option maxHeartbeats 2000000 in
theorem law_qinf (v mu : Nat) (md : Int) (w : World) (h0 : 0 ≤ md) (h9 : md ≤ 9) (hg : (FloatKind.f64.format.order mu 0 == some .gt) = true) (hmu : mu < 2 * 9223372036854775808) (hf : Fin mu) (hv : Fin v) (q : Nat) (hq : D.div v mu = some q) (hqn : Num q) (h : rg q = 9218868437227405312) : Calls Try.prog 3 #[.int .u64 v, .int .u64 mu, .int .i64 md] w (Fine w) := by
  have p1 := bits64 4619567317775286272
  have p2 := bits64 4617315517961601024
  have p3 := from64 4617315517961601024
  have p4 := from64 (v : Int)
  have p5 := from64 (mu : Int)
  rw [Int.toNat_natCast] at p4 p5
  rw [show (4617315517961601024 : Int).toNat = 4617315517961601024 from rfl] at p3
  have hone := one_awake
  have HM := Aside0.mk (fun W => isInf_fn mu (num_of_gt hmu hg) W)
  rw [decide_eq_false (show rg mu ≠ 9218868437227405312 by have := hf.2; omega)] at HM
  have hne := neq_self hv.num
  have HV := Aside0.mk (fun W => isInf_fn v hv.num W)
  rw [decide_eq_false (show rg v ≠ 9218868437227405312 by have := hv.2; omega)] at HV
  have hdiv := fdiv hq
  have HQ := Aside0.mk (fun W => isInf_fn q hqn W)
  rw [decide_eq_true h] at HQ
  clear h hmu hf hv hq hqn
  go_enter Try.func3, Try.ntmps3
  go_wp2_with (first
    | (go_at_call 4; refine (first _).mono ?_; rintro e w1 ⟨rfl, hb1⟩; have HB1 := Aside0.mk hb1; clear hb1)
    | (go_at_call 7; (with_reducible refine (HM.out _).mono ?_); rintro e w' ⟨rfl, rfl⟩)
    | (go_at_call 7; (with_reducible refine (HV.out _).mono ?_); rintro e w' ⟨rfl, rfl⟩)
    | (go_at_call 7; (with_reducible refine (HQ.out _).mono ?_); rintro e w' ⟨rfl, rfl⟩))
  go_ret
  exact ⟨rfl, HB1.out⟩
set_option maxRecDepth 100000 in
set_option maxHeartbeats 2000000 in
theorem law_same (v mu m : Nat) (w : World) (h9 : m ≤ 9) (hg : (FloatKind.f64.format.order mu 0 == some .gt) = true) (hmu : mu < 2 * 9223372036854775808) (hf : Fin mu) (hv : Fin v) (q : Nat) (hq : D.div v mu = some q) (hqf : Fin q) (hr : Re q = 0) : Calls Try.prog 3 #[.int .u64 v, .int .u64 mu, .int .i64 m] w (Fine w) := by
  have p1 := bits64 4619567317775286272
  have p2 := bits64 4617315517961601024
  have p3 := from64 4617315517961601024
  have p4 := from64 (v : Int)
  have p5 := from64 (mu : Int)
  rw [Int.toNat_natCast] at p4 p5
  rw [show (4617315517961601024 : Int).toNat = 4617315517961601024 from rfl] at p3
  have hone := one_awake
  have HM := Aside0.mk (fun W => isInf_fn mu (num_of_gt hmu hg) W)
  rw [decide_eq_false (show rg mu ≠ 9218868437227405312 by have := hf.2; omega)] at HM
  have hne := neq_self hv.num
  have HV := Aside0.mk (fun W => isInf_fn v hv.num W)
  rw [decide_eq_false (show rg v ≠ 9218868437227405312 by have := hv.2; omega)] at HV
  have hdiv := fdiv hq
  have HQ := Aside0.mk (fun W => isInf_fn q hqf.num W)
  rw [decide_eq_false (show rg q ≠ 9218868437227405312 by have := hqf.2; omega)] at HQ
  have HS := Aside0.mk (fun W => impl_same v mu q m h9 W hv hq hqf hr)
  have HR := Aside0.mk (fun W => round_same q hqf m hr W)
  have hqq : (FloatKind.f64.format.order q q == some .eq) = true := by
    show (D.order q q == some .eq) = true
    rw [eq_fin hqf hqf]
    simp
  have h9' : ¬ (9 : Int) < (m : Int) := by omega
  clear hmu hf hv hq hqf hr
  go_enter Try.func3, Try.ntmps3
  go_wp2_with (first
    | (go_at_call 4; (with_reducible refine (first _).mono ?_); rintro e w1 ⟨rfl, hb1⟩; have HB1 := Aside0.mk hb1; clear hb1)
    | (go_at_call 7; (with_reducible refine (HM.out _).mono ?_); rintro e w' ⟨rfl, rfl⟩)
    | (go_at_call 7; (with_reducible refine (HV.out _).mono ?_); rintro e w' ⟨rfl, rfl⟩)
    | (go_at_call 7; (with_reducible refine (HQ.out _).mono ?_); rintro e w' ⟨rfl, rfl⟩)
    | (go_at_call 4; (with_reducible refine (HS.out _).mono ?_); rintro e w2 ⟨rfl, hb2⟩; have HB2 := Aside0.mk hb2; clear hb2)
    | (go_at_call 8; (with_reducible refine (HR.out _).mono ?_); rintro e w' ⟨rfl, rfl⟩))
  go_ret
  exact ⟨rfl, HB1.out.trans (HB2.out.mono HB1.out.size)⟩
theorem ne_whole {x q : Nat} {up : Bool} (hx : Fin x) (hq : Fin q) (hr : Re q ≠ 0) (hU : U x = (if up then Lo q + 1 else Lo q) * ONE) : (FloatKind.f64.format.order x q == some .eq) = false := by
  show (D.order x q == some .eq) = false
  rw [eq_fin hx hq, hU]
  refine decide_eq_false (fun h => ?_)
  have hs := U_split q
  have hg := re_range q
  cases up
  · simp only [Bool.false_eq_true, if_false] at h
    omega
  · simp only [if_true] at h
    rw [Int.add_mul, Int.one_mul] at h
    omega
set_option maxRecDepth 100000 in
set_option maxHeartbeats 2000000 in
theorem law_round (v mu m : Nat) (w : World) (h9 : m ≤ 9) (hg : (FloatKind.f64.format.order mu 0 == some .gt) = true) (hmu : mu < 2 * 9223372036854775808) (hf : Fin mu) (hv : Fin v) (q : Nat) (hq : D.div v mu = some q) (hqf : Fin q) (hr : Re q ≠ 0) : Calls Try.prog 3 #[.int .u64 v, .int .u64 mu, .int .i64 m] w (Fine w) := by
  have p1 := bits64 4619567317775286272
  have p2 := bits64 4617315517961601024
  have p3 := from64 4617315517961601024
  have p4 := from64 (v : Int)
  have p5 := from64 (mu : Int)
  rw [Int.toNat_natCast] at p4 p5
  rw [show (4617315517961601024 : Int).toNat = 4617315517961601024 from rfl] at p3
  have hone := one_awake
  have HM := Aside0.mk (fun W => isInf_fn mu (num_of_gt hmu hg) W)
  rw [decide_eq_false (show rg mu ≠ 9218868437227405312 by have := hf.2; omega)] at HM
  have hne := neq_self hv.num
  have HV := Aside0.mk (fun W => isInf_fn v hv.num W)
  rw [decide_eq_false (show rg v ≠ 9218868437227405312 by have := hv.2; omega)] at HV
  have hdiv := fdiv hq
  have HQ := Aside0.mk (fun W => isInf_fn q hqf.num W)
  rw [decide_eq_false (show rg q ≠ 9218868437227405312 by have := hqf.2; omega)] at HQ
  obtain ⟨d, hd⟩ := rest_of hqf hr
  have HS := Aside0.mk (fun W => impl_round v mu q d m h9 W hv hf hq hqf hr hd)
  have HR := Aside0.mk (fun W => round_spec q d hqf m h9 hr hd W)
  have h9' : ¬ (9 : Int) < (m : Int) := by omega
  have HF := Aside0.mk (And.intro hf (And.intro hqf hr))
  clear hmu hf hv hq hqf hr hd
  go_enter Try.func3, Try.ntmps3
  go_wp2_with (first
    | (go_at_call 4; (with_reducible refine (first _).mono ?_); rintro e w1 ⟨rfl, hb1⟩; have HB1 := Aside0.mk hb1; clear hb1)
    | (go_at_call 7; (with_reducible refine (HM.out _).mono ?_); rintro e w' ⟨rfl, rfl⟩)
    | (go_at_call 7; (with_reducible refine (HV.out _).mono ?_); rintro e w' ⟨rfl, rfl⟩)
    | (go_at_call 7; (with_reducible refine (HQ.out _).mono ?_); rintro e w' ⟨rfl, rfl⟩))
  refine (HS.out _).mono ?_
  rintro e w2 ⟨rv, p, h1, h2, h3, h4, hb2, ⟨h5, rfl⟩ | ⟨h5, rfl⟩⟩
  · have H := Aside0.mk (And.intro (And.intro h1 h2) (And.intro (And.intro h3 h4) h5))
    have HB2 := Aside0.mk hb2
    clear hb2 h1 h2 h3 h4 h5
    go_wp2_with fail
    refine (HR.out _).mono ?_
    rintro e w' ⟨x, rfl, hx1, hx2, rfl⟩
    obtain ⟨b, hb, hbn, hbi, hbe⟩ := prod_same H.out.1.1 hx1 HF.out.1 (hx2.trans H.out.1.2.symm) H.out.2.1.1 H.out.2.1.2
    have hmul := fmul hb
    have hxq := ne_whole hx1 HF.out.2.1 HF.out.2.2 hx2
    have HBI := Aside0.mk (fun W => isInf_fn b hbn W)
    rw [decide_eq_true (hbi.2 H.out.2.2)] at HBI
    clear hx1 hx2 hb hbn hbi hbe
    go_wp2_with (go_at_call 7; (with_reducible refine (HBI.out _).mono ?_); rintro e w' ⟨rfl, rfl⟩)
    go_ret
    exact ⟨rfl, HB1.out.trans (HB2.out.mono HB1.out.size)⟩
  · have H := Aside0.mk (And.intro (And.intro h1 h2) (And.intro (And.intro h3 h4) h5))
    have HB2 := Aside0.mk hb2
    clear hb2 h1 h2 h3 h4 h5
    go_wp2_with fail
    refine (HR.out _).mono ?_
    rintro e w' ⟨x, rfl, hx1, hx2, rfl⟩
    obtain ⟨b, hb, hbn, hbi, hbe⟩ := prod_same H.out.1.1 hx1 HF.out.1 (hx2.trans H.out.1.2.symm) H.out.2.1.1 H.out.2.1.2
    have hmul := fmul hb
    have hxq := ne_whole hx1 HF.out.2.1 HF.out.2.2 hx2
    have HBI := Aside0.mk (fun W => isInf_fn b hbn W)
    rw [decide_eq_false (fun h => H.out.2.2 (hbi.1 h))] at HBI
    have hpb := hbe H.out.2.2
    have p6 := from64 (p : Int)
    rw [Int.toNat_natCast] at p6
    clear hx1 hx2 hb hbn hbi hbe
    go_wp2_with (go_at_call 7; (with_reducible refine (HBI.out _).mono ?_); rintro e w' ⟨rfl, rfl⟩)
    go_ret
    exact ⟨rfl, HB1.out.trans (HB2.out.mono HB1.out.size)⟩
/-- The law, for every input. -/
theorem law_any (v mu : Nat) (md : Int) (w : World) (hv : v < 2 * 9223372036854775808) (hmu : mu < 2 * 9223372036854775808) : Calls Try.prog 3 #[.int .u64 v, .int .u64 mu, .int .i64 md] w (Fine w) := by
  by_cases h0 : md < 0
  · exact law_lo v mu md w h0
  · by_cases h9 : 9 < md
    · exact law_hi v mu md w h9
    · cases hg : (FloatKind.f64.format.order mu 0 == some .gt)
      · exact law_m0 v mu md w (by omega) (by omega) hg
      · have hn := num_of_gt hmu hg
        by_cases hi : rg mu = 9218868437227405312
        · exact law_minf v mu md w (by omega) (by omega) hg hmu hi
        · have hf : Fin mu := ⟨hmu, by have := hn.2; omega⟩
          by_cases hna : 9218868437227405312 < rg v
          · exact law_nan v mu md w (by omega) (by omega) hg hmu hf hna
          · by_cases hvi : rg v = 9218868437227405312
            · exact law_vinf v mu md w (by omega) (by omega) hg hmu hf ⟨hv, by omega⟩ hvi
            · have hvf : Fin v := ⟨hv, by omega⟩
              obtain ⟨q, hq, hq1, hq2⟩ := div_some hvf hf (pos_of_gt hf hg)
              by_cases hqi : rg q = 9218868437227405312
              · exact law_qinf v mu md w (by omega) (by omega) hg hmu hf hvf q hq ⟨hq1, hq2⟩ hqi
              · have hqf : Fin q := ⟨hq1, by omega⟩
                obtain ⟨m, rfl⟩ : ∃ m : Nat, md = (m : Int) := ⟨md.toNat, by omega⟩
                by_cases hr : Re q = 0
                · exact law_same v mu m w (by omega) hg hmu hf hvf q hq hqf hr
                · exact law_round v mu m w (by omega) hg hmu hf hvf q hq hqf hr
/-- THE WALK, as the row asks it. -/
theorem walk (v mu md : Int) (w : World) (w0 : (Lit.int .u64 v).wf = true) (w1 : (Lit.int .u64 mu).wf = true) (w2 : (Lit.int .i64 md).wf = true) :
    Calls Try.prog 3 #[.int .u64 v, .int .u64 mu, .int .i64 md] w fun e w' => e = .returned (.bool true) ∧ Below w.heap.size w w' := by
  simp [Lit.wf, IntKind.min, IntKind.max, IntKind.bits, IntKind.signed] at w0 w1
  obtain ⟨a, rfl⟩ : ∃ a : Nat, v = (a : Int) := ⟨v.toNat, by omega⟩
  obtain ⟨b, rfl⟩ : ∃ b : Nat, mu = (b : Int) := ⟨mu.toNat, by omega⟩
  exact law_any a b md w (by omega) (by omega)

end Go.Proofs.Ytkfnllonahlfeaa.Rf
