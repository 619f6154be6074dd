/- Digits divided by digits, bit by bit: the walk. -/
import Derived.Test.YtipnmcnacgmmnaaWdDivP
import Derived.Test.YtipnmcnacgmmnaaWdMul
namespace Go.Proofs.Ytipnmcnacgmmnaa.WidemagDiv
open Go.RowKit Go.Proofs.Ytipnmcnacgmmnaa.PmagDiv Go.Proofs.YtipnmcnacgmmnaaW.PrintWords Go.Proofs.YtipnmcnacgmmnaaW.PrintLast Go.Proofs.YtipnmcnacgmmnaaW.PrintMore
set_option linter.unusedVariables false
set_option linter.unusedSimpArgs false

def RetSS (P : Nat → Prop) (w : World) (p q : List Int → Prop) (e : Ending) (w' : World) : Prop := ∃ v1 v2 l1 l2, e = .returned (.tuple #[v1, v2]) ∧ Sl (fun k => P k ∨ w.heap.size ≤ k) w' v1 l1 ∧ Sl (fun k => P k ∨ w.heap.size ≤ k) w' v2 l2 ∧ p l1 ∧ q l2 ∧ Below w.heap.size w w'
/-- Blocks of what came in, and those behind the block of the digits that are made. -/
def PD (P : Nat → Prop) (n k : Nat) : Prop := (P k ∧ k < n) ∨ n < k
theorem gt_new {P : Nat → Prop} {n m : Nat} (h : n < m) : ∀ k, (PD P n k ∨ m ≤ k) → PD P n k := by
  rintro k (h1 | h1)
  · exact h1
  · exact .inr (by omega)
theorem pd_ne {P : Nat → Prop} {n : Nat} : ∀ k, PD P n k → k ≠ n := by
  rintro k (⟨_, h⟩ | h) <;> omega
theorem pd_old {P : Nat → Prop} {n : Nat} : ∀ k, PD P n k → P k ∨ n ≤ k := by
  rintro k (⟨h, _⟩ | h)
  · exact .inl h
  · exact .inr (by omega)
/-- What holds at the head of a round of the division. -/
structure DivAt (P : Nat → Prop) (w : World) (l1 l2 : List Int) (m : Int) (A : Option Addr) (c : Nat) (r : List Int) (W : World) : Prop where
  inv : DivInv l1 l2 r (m + 1).toNat
  sl : Sl (PD P w.heap.size) W (.slice A r.length c) r
  blk : ∃ out, out.length = l1.length ∧ Dig out ∧ BkR w out W
theorem bit_shift' {a : List Int} (hd : Dig a) (n : Nat) (hn : n / 32 < a.length) : Go.bits .and .u32 (rd a ((n : Int) / 32) / 2 ^ (n % 32)) 1 = mag a / 2 ^ n % 2 := by
  have hx := rd_dig hd (n / 32)
  have hp := two_pos (n % 32)
  rw [show ((n : Int) / 32) = ((n / 32 : Nat) : Int) by omega, and_one _ ⟨Int.ediv_nonneg hx.1 (by omega), Int.le_trans (Int.ediv_le_self _ hx.1) hx.2⟩, ← mag_bit hd n hn]
theorem magCmp_ge (P : Nat → Prop) (v1 v2 : Value) (l1 l2 : List Int) (w : World) (h1 : Sl P w v1 l1) (h2 : Sl P w v2 l2) (d1 : Dig l1) (d2 : Dig l2) (n1 : Nrm l1) (n2 : Nrm l2) (hl1 : l1.length ≤ 1000000) (hge : mag l2 ≤ mag l1) :
    Calls Try.prog 24 #[v1, v2] w fun e w' => ∃ q : Int, 0 ≤ q ∧ q ≤ 1 ∧ e = .returned (.int .i64 q) ∧ Below w.heap.size w w' := by
  refine (magCmp_any P v1 v2 l1 l2 w h1 h2 d1 d2 n1 n2 hl1).mono ?_
  rintro e w' ⟨rfl, hb⟩
  exact ⟨_, cmpI_ge hge, by unfold cmpI; split <;> (try split) <;> omega, rfl, hb⟩
theorem magCmp_lt (P : Nat → Prop) (v1 v2 : Value) (l1 l2 : List Int) (w : World) (h1 : Sl P w v1 l1) (h2 : Sl P w v2 l2) (d1 : Dig l1) (d2 : Dig l2) (n1 : Nrm l1) (n2 : Nrm l2) (hl1 : l1.length ≤ 1000000) (hlt : mag l1 < mag l2) :
    Calls Try.prog 24 #[v1, v2] w fun e w' => e = .returned (.int .i64 (-1)) ∧ Below w.heap.size w w' := by
  refine (magCmp_any P v1 v2 l1 l2 w h1 h2 d1 d2 n1 n2 hl1).mono ?_
  rintro e w' ⟨rfl, hb⟩
  exact ⟨by rw [cmpI_lt hlt], hb⟩
theorem div_ge {a b r u v : List Int} {n : Nat} (h : DivInv a b r (n + 1)) (hb0 : 0 < mag b) (hv : mag v = mag u - mag b ∧ Dig v ∧ Nrm v ∧ v.length ≤ u.length) (hu : mag u = 2 * mag r + mag a / 2 ^ n % 2) (hge : mag b ≤ 2 * mag r + mag a / 2 ^ n % 2) : DivInv a b v ((n : Int) - 1 + 1).toNat := by
  rw [show ((n : Int) - 1 + 1).toNat = n by omega]
  exact h.off hb0 hv.2.1 hv.2.2.1 (by rw [hv.1, hu]) hge
theorem div_lt {a b r u : List Int} {n : Nat} (h : DivInv a b r (n + 1)) (hb0 : 0 < mag b) (hd : Dig u) (hn : Nrm u) (hu : mag u = 2 * mag r + mag a / 2 ^ n % 2) (hlt : 2 * mag r + mag a / 2 ^ n % 2 < mag b) : DivInv a b u ((n : Int) - 1 + 1).toNat := by
  rw [show ((n : Int) - 1 + 1).toNat = n by omega]
  exact h.keep hb0 hd hn hu (by omega)
theorem BkR.lt {w W : World} {out : List Int} (h : BkR w out W) : w.heap.size < W.heap.size := (Array.getElem?_eq_some_iff.1 h.1).1
theorem BkR.below {w W W' : World} {out : List Int} (h : BkR w out W) (hb : Below W.heap.size W W') : BkR w out W' := ⟨(hb.block _ h.lt).trans h.1, h.2.trans (hb.mono h.2.size)⟩
set_option maxRecDepth 100000 in
set_option maxHeartbeats 4000000 in
theorem magDiv_any (P : Nat → Prop) (A1 : Option Addr) (c1 : Nat) (A2 : Option Addr) (c2 : Nat) (l1 l2 : List Int) (w : World) (h1 : Sl P w (.slice A1 l1.length c1) l1) (h2 : Sl P w (.slice A2 l2.length c2) l2) (d1 : Dig l1) (d2 : Dig l2) (n2 : Nrm l2) (h0 : 0 < mag l2) (hl1 : l1.length ≤ 1000) (hl2 : l2.length ≤ 1000) :
    Calls Try.prog 37 #[.slice A1 l1.length c1, .slice A2 l2.length c2] w (RetSS P w (fun q => Dig q ∧ q.length ≤ l1.length) (fun r => Dig r ∧ Nrm r ∧ mag r = mag l1 % mag l2 ∧ r.length ≤ l2.length)) := by
  have hmk := print_make (P := Try.prog) 23 39 .u32 4 Try.underlying23 (by kernel_rfl) (by omega) l1.length (by omega)
  have HC1 := Aside0.mk (Sl.digits (l := l1) h1)
  have HS2 := Aside0.mk h2.old
  have HD1 := Aside0.mk d1
  have HD2 := Aside0.mk d2
  have HN2 := Aside0.mk n2
  have HM0 := Aside0.mk h0
  have HB0 := Aside0.mk (BkR.start w l1.length)
  clear h1 h2 d1 d2 n2 h0
  go_enter Try.func37, Try.ntmps37
  go_wp2_with fail
  go_loopw [6, 5] (fun i rv W => ∃ (m : Int) (A : Option Addr) (c : Nat) (r : List Int), -1 ≤ m ∧ m < 32 * l1.length ∧ i = .int .i64 m ∧ rv = .slice A r.length c ∧ Aside0 (DivAt P w l1 l2 m A c r W)) (fun i _ _ => (intOf i + 1).toNat)
  case atStart => exact ⟨_, none, 0, [], by omega, by omega, rfl, rfl, ⟨by rw [show (32 * (l1.length : Int) - 1 + 1).toNat = 32 * l1.length by omega]; exact DivInv.start HD1.out, Sl.nil _, ⟨_, List.length_replicate .., (fun x hx => by rw [List.mem_replicate] at hx; omega), HB0.out⟩⟩⟩
  case round =>
    obtain ⟨m, A, c, r, hm0, hm1, rfl, rfl, HA⟩ := hrel
    by_cases hge : 0 ≤ m
    · obtain ⟨n, rfl⟩ : ∃ n : Nat, m = n := ⟨m.toNat, by omega⟩
      have hI : DivInv l1 l2 r (n + 1) := by have h := HA.out.inv; rwa [show ((n : Int) + 1).toNat = n + 1 by omega] at h
      have hrl : r.length ≤ l2.length := hI.len HD2.out HM0.out
      have HI := Aside0.mk hI
      have HSr := Aside0.mk HA.out.sl
      obtain ⟨out, hol, hod, hok⟩ := HA.out.blk
      have HOD := Aside0.mk hod
      have HBK := Aside0.mk hok
      clear hI hod hok HA
      have hnd : n / 32 < l1.length := by omega
      have HBS := Aside0.mk (bit_shift' HD1.out n hnd)
      have h01 : mag l1 / 2 ^ n % 2 = 0 ∨ mag l1 / 2 ^ n % 2 = 1 := by omega
      have TA : True := trivial
      rcases h01 with h0 | h0
      · have HBIT := Aside0.mk h0
        have hbit : (Go.bits .and .u32 (rd l1 ((n : Int) / 32) / 2 ^ (n % 32)) 1 == 1) = false := by rw [HBS.out, h0]; rfl
        clear h0
        by_cases hge : mag l2 ≤ 2 * mag r + mag l1 / 2 ^ n % 2
        · have HGE := Aside0.mk hge
          clear hge
          go_wp2_with (first | (go_at_call 23; have tA := TA; refine (magAdd_any (PD P w.heap.size) l2.length _ _ r r _ HSr.out HSr.out HI.out.dig HI.out.dig hrl hrl (by omega)).mono ?_; rintro e w1 ⟨v1, t, rfl, hS1, hp1, hb1⟩; obtain ⟨A3, c3, rfl, hc3, _⟩ := hS1.shape; have HS1 := Aside0.mk (hS1.mono (gt_new HBK.out.lt)); have HP1 := Aside0.mk hp1; have HB1 := Aside0.mk (HBK.out.below hb1); obtain ⟨ad1, ea1, ha1⟩ := Kd.at_int (Kd.C_below HC1.out HB1.out.2) ((n / 32 : Nat) : Int) (by omega) (by omega); subst ea1; rw [Int.toNat_natCast] at ha1; clear TA tA hS1 hp1 hb1; have HB2 := HB1; have HS2' := HS1; have HSM := Aside0.mk (show mag t = 2 * mag r + mag l1 / 2 ^ n % 2 by rw [HP1.out.1, HBIT.out]; omega); have HSD := Aside0.mk HP1.out.2.1; have HSL := Aside0.mk (show t.length ≤ l2.length + 2 by have := HP1.out.2.2; omega)) | (go_at_call 32; refine (trim_any (PD P w.heap.size) _ _ _ HS2'.out (by have := HSL.out; omega)).mono ?_; rintro e w3 ⟨v3, u, rfl, hS3, hp3, hb3⟩; obtain ⟨A5, c5, rfl, hc5, _⟩ := hS3.shape; have HS3 := Aside0.mk (hS3.mono (gt_new HB2.out.lt)); have HB3 := Aside0.mk (HB2.out.below hb3); have HUM := Aside0.mk (hp3.1.trans HSM.out); have HUN := Aside0.mk hp3.2.1; have HUL := Aside0.mk (Nat.le_trans hp3.2.2.1 HSL.out); have HUD := Aside0.mk (hp3.2.2.2 HSD.out); clear hS3 hp3 hb3) | (go_at_call 24; refine (magCmp_ge (PD P w.heap.size) _ _ u l2 _ HS3.out ((HS2.out.below HB3.out.2).mono fun _ h => .inl h) HUD.out HD2.out HUN.out HN2.out (by have := HUL.out; omega) (by rw [HUM.out]; exact HGE.out)).mono ?_; rintro e w4 ⟨qc, hq0, hq1, rfl, hb4⟩; have HS4 := Aside0.mk (HS3.out.below hb4); have HB4 := Aside0.mk (HB3.out.below hb4); clear hb4) | (go_at_call 25; refine (magSub_any (PD P w.heap.size) _ _ u l2 _ HS4.out ((HS2.out.below HB4.out.2).mono fun _ h => .inl h) HUD.out HD2.out HN2.out (by have := HUL.out; omega) (by rw [HUM.out]; exact HGE.out)).mono ?_; rintro e w5 ⟨v5, v, rfl, hS5, hp5, hb5⟩; obtain ⟨A6, c6, rfl, hc6, _⟩ := hS5.shape; have HB5 := Aside0.mk (HB4.out.below hb5); have HP5 := Aside0.mk hp5; have HS5 := Aside0.mk (hS5.mono (gt_new HB4.out.lt)); obtain ⟨cq, fq⟩ := HB5.out.cell (n / 32) (by omega); clear hS5 hp5 hb5))
          go_region
          go_wp2_with fail
          go_roundw
          case rel => exact ⟨(n : Int) - 1, _, _, v, by omega, by omega, rfl, rfl, ⟨div_ge HI.out HM0.out HP5.out HUM.out HGE.out, (HS5.out.far pd_ne _).below (Below.refl _ _).drew, ⟨_, by rw [List.length_set]; exact hol, HOD.out.set _ (bits_u32 _ _ _), (HB5.out.set _ _).drew⟩⟩⟩
          case measure => simp [intOf]
        · have HGE := Aside0.mk (Int.not_le.1 hge)
          clear hge
          go_wp2_with (first | (go_at_call 23; have tA := TA; refine (magAdd_any (PD P w.heap.size) l2.length _ _ r r _ HSr.out HSr.out HI.out.dig HI.out.dig hrl hrl (by omega)).mono ?_; rintro e w1 ⟨v1, t, rfl, hS1, hp1, hb1⟩; obtain ⟨A3, c3, rfl, hc3, _⟩ := hS1.shape; have HS1 := Aside0.mk (hS1.mono (gt_new HBK.out.lt)); have HP1 := Aside0.mk hp1; have HB1 := Aside0.mk (HBK.out.below hb1); obtain ⟨ad1, ea1, ha1⟩ := Kd.at_int (Kd.C_below HC1.out HB1.out.2) ((n / 32 : Nat) : Int) (by omega) (by omega); subst ea1; rw [Int.toNat_natCast] at ha1; clear TA tA hS1 hp1 hb1; have HB2 := HB1; have HS2' := HS1; have HSM := Aside0.mk (show mag t = 2 * mag r + mag l1 / 2 ^ n % 2 by rw [HP1.out.1, HBIT.out]; omega); have HSD := Aside0.mk HP1.out.2.1; have HSL := Aside0.mk (show t.length ≤ l2.length + 2 by have := HP1.out.2.2; omega)) | (go_at_call 32; refine (trim_any (PD P w.heap.size) _ _ _ HS2'.out (by have := HSL.out; omega)).mono ?_; rintro e w3 ⟨v3, u, rfl, hS3, hp3, hb3⟩; obtain ⟨A5, c5, rfl, hc5, _⟩ := hS3.shape; have HS3 := Aside0.mk (hS3.mono (gt_new HB2.out.lt)); have HB3 := Aside0.mk (HB2.out.below hb3); have HUM := Aside0.mk (hp3.1.trans HSM.out); have HUN := Aside0.mk hp3.2.1; have HUL := Aside0.mk (Nat.le_trans hp3.2.2.1 HSL.out); have HUD := Aside0.mk (hp3.2.2.2 HSD.out); clear hS3 hp3 hb3) | (go_at_call 24; refine (magCmp_lt (PD P w.heap.size) _ _ u l2 _ HS3.out ((HS2.out.below HB3.out.2).mono fun _ h => .inl h) HUD.out HD2.out HUN.out HN2.out (by have := HUL.out; omega) (by rw [HUM.out]; exact HGE.out)).mono ?_; rintro e w4 ⟨rfl, hb4⟩; have HS4 := Aside0.mk (HS3.out.below hb4); have HB4 := Aside0.mk (HB3.out.below hb4); clear hb4))
          go_roundw
          case rel => exact ⟨(n : Int) - 1, _, _, u, by omega, by omega, rfl, rfl, ⟨div_lt HI.out HM0.out HUD.out HUN.out HUM.out HGE.out, HS4.out, ⟨out, hol, HOD.out, HB4.out⟩⟩⟩
          case measure => simp [intOf]
      · have HBIT := Aside0.mk h0
        have hbit : (Go.bits .and .u32 (rd l1 ((n : Int) / 32) / 2 ^ (n % 32)) 1 == 1) = true := by rw [HBS.out, h0]; rfl
        clear h0
        by_cases hge : mag l2 ≤ 2 * mag r + mag l1 / 2 ^ n % 2
        · have HGE := Aside0.mk hge
          clear hge
          go_wp2_with (first | (go_at_call 23; have tA := TA; refine (magAdd_any (PD P w.heap.size) l2.length _ _ r r _ HSr.out HSr.out HI.out.dig HI.out.dig hrl hrl (by omega)).mono ?_; rintro e w1 ⟨v1, t, rfl, hS1, hp1, hb1⟩; obtain ⟨A3, c3, rfl, hc3, _⟩ := hS1.shape; have HS1 := Aside0.mk (hS1.mono (gt_new HBK.out.lt)); have HP1 := Aside0.mk hp1; have HB1 := Aside0.mk (HBK.out.below hb1); obtain ⟨ad1, ea1, ha1⟩ := Kd.at_int (Kd.C_below HC1.out HB1.out.2) ((n / 32 : Nat) : Int) (by omega) (by omega); subst ea1; rw [Int.toNat_natCast] at ha1; clear TA tA hS1 hp1 hb1) | (go_at_call 23; refine (magAdd_any (PD P w.heap.size) (l2.length + 1) _ _ t [1] _ (HS1.out.below ((Below.refl _ _).alloc (Nat.le_refl _) _)) (Sl.lit_ _ w1.heap.size 39 1 [1] rfl (heap_alloc_new w1 _) (.inr HB1.out.lt) (by omega)) HP1.out.2.1 (Dig.mk_cons (by omega) Dig.nil) HP1.out.2.2 (by simp) (by omega)).mono ?_; rintro e w2 ⟨v2, s, rfl, hS2, hp2, hb2⟩; obtain ⟨A4, c4, rfl, hc4, _⟩ := hS2.shape; have HS2' := Aside0.mk (hS2.mono (gt_new (Nat.lt_of_lt_of_le HB1.out.lt (by simp)))); have HB2 := Aside0.mk ((HB1.out.below ((Below.refl _ _).alloc (Nat.le_refl _) _)).below hb2); have HSM := Aside0.mk (show mag s = 2 * mag r + mag l1 / 2 ^ n % 2 by rw [hp2.1, HP1.out.1, HBIT.out]; simp only [mag]; omega); have HSD := Aside0.mk hp2.2.1; have HSL := Aside0.mk (show s.length ≤ l2.length + 2 by have := hp2.2.2; omega); clear hS2 hp2 hb2) | (go_at_call 32; refine (trim_any (PD P w.heap.size) _ _ _ HS2'.out (by have := HSL.out; omega)).mono ?_; rintro e w3 ⟨v3, u, rfl, hS3, hp3, hb3⟩; obtain ⟨A5, c5, rfl, hc5, _⟩ := hS3.shape; have HS3 := Aside0.mk (hS3.mono (gt_new HB2.out.lt)); have HB3 := Aside0.mk (HB2.out.below hb3); have HUM := Aside0.mk (hp3.1.trans HSM.out); have HUN := Aside0.mk hp3.2.1; have HUL := Aside0.mk (Nat.le_trans hp3.2.2.1 HSL.out); have HUD := Aside0.mk (hp3.2.2.2 HSD.out); clear hS3 hp3 hb3) | (go_at_call 24; refine (magCmp_ge (PD P w.heap.size) _ _ u l2 _ HS3.out ((HS2.out.below HB3.out.2).mono fun _ h => .inl h) HUD.out HD2.out HUN.out HN2.out (by have := HUL.out; omega) (by rw [HUM.out]; exact HGE.out)).mono ?_; rintro e w4 ⟨qc, hq0, hq1, rfl, hb4⟩; have HS4 := Aside0.mk (HS3.out.below hb4); have HB4 := Aside0.mk (HB3.out.below hb4); clear hb4) | (go_at_call 25; refine (magSub_any (PD P w.heap.size) _ _ u l2 _ HS4.out ((HS2.out.below HB4.out.2).mono fun _ h => .inl h) HUD.out HD2.out HN2.out (by have := HUL.out; omega) (by rw [HUM.out]; exact HGE.out)).mono ?_; rintro e w5 ⟨v5, v, rfl, hS5, hp5, hb5⟩; obtain ⟨A6, c6, rfl, hc6, _⟩ := hS5.shape; have HB5 := Aside0.mk (HB4.out.below hb5); have HP5 := Aside0.mk hp5; have HS5 := Aside0.mk (hS5.mono (gt_new HB4.out.lt)); obtain ⟨cq, fq⟩ := HB5.out.cell (n / 32) (by omega); clear hS5 hp5 hb5))
          go_region
          go_wp2_with fail
          go_roundw
          case rel => exact ⟨(n : Int) - 1, _, _, v, by omega, by omega, rfl, rfl, ⟨div_ge HI.out HM0.out HP5.out HUM.out HGE.out, (HS5.out.far pd_ne _).below (Below.refl _ _).drew, ⟨_, by rw [List.length_set]; exact hol, HOD.out.set _ (bits_u32 _ _ _), (HB5.out.set _ _).drew⟩⟩⟩
          case measure => simp [intOf]
        · have HGE := Aside0.mk (Int.not_le.1 hge)
          clear hge
          go_wp2_with (first | (go_at_call 23; have tA := TA; refine (magAdd_any (PD P w.heap.size) l2.length _ _ r r _ HSr.out HSr.out HI.out.dig HI.out.dig hrl hrl (by omega)).mono ?_; rintro e w1 ⟨v1, t, rfl, hS1, hp1, hb1⟩; obtain ⟨A3, c3, rfl, hc3, _⟩ := hS1.shape; have HS1 := Aside0.mk (hS1.mono (gt_new HBK.out.lt)); have HP1 := Aside0.mk hp1; have HB1 := Aside0.mk (HBK.out.below hb1); obtain ⟨ad1, ea1, ha1⟩ := Kd.at_int (Kd.C_below HC1.out HB1.out.2) ((n / 32 : Nat) : Int) (by omega) (by omega); subst ea1; rw [Int.toNat_natCast] at ha1; clear TA tA hS1 hp1 hb1) | (go_at_call 23; refine (magAdd_any (PD P w.heap.size) (l2.length + 1) _ _ t [1] _ (HS1.out.below ((Below.refl _ _).alloc (Nat.le_refl _) _)) (Sl.lit_ _ w1.heap.size 39 1 [1] rfl (heap_alloc_new w1 _) (.inr HB1.out.lt) (by omega)) HP1.out.2.1 (Dig.mk_cons (by omega) Dig.nil) HP1.out.2.2 (by simp) (by omega)).mono ?_; rintro e w2 ⟨v2, s, rfl, hS2, hp2, hb2⟩; obtain ⟨A4, c4, rfl, hc4, _⟩ := hS2.shape; have HS2' := Aside0.mk (hS2.mono (gt_new (Nat.lt_of_lt_of_le HB1.out.lt (by simp)))); have HB2 := Aside0.mk ((HB1.out.below ((Below.refl _ _).alloc (Nat.le_refl _) _)).below hb2); have HSM := Aside0.mk (show mag s = 2 * mag r + mag l1 / 2 ^ n % 2 by rw [hp2.1, HP1.out.1, HBIT.out]; simp only [mag]; omega); have HSD := Aside0.mk hp2.2.1; have HSL := Aside0.mk (show s.length ≤ l2.length + 2 by have := hp2.2.2; omega); clear hS2 hp2 hb2) | (go_at_call 32; refine (trim_any (PD P w.heap.size) _ _ _ HS2'.out (by have := HSL.out; omega)).mono ?_; rintro e w3 ⟨v3, u, rfl, hS3, hp3, hb3⟩; obtain ⟨A5, c5, rfl, hc5, _⟩ := hS3.shape; have HS3 := Aside0.mk (hS3.mono (gt_new HB2.out.lt)); have HB3 := Aside0.mk (HB2.out.below hb3); have HUM := Aside0.mk (hp3.1.trans HSM.out); have HUN := Aside0.mk hp3.2.1; have HUL := Aside0.mk (Nat.le_trans hp3.2.2.1 HSL.out); have HUD := Aside0.mk (hp3.2.2.2 HSD.out); clear hS3 hp3 hb3) | (go_at_call 24; refine (magCmp_lt (PD P w.heap.size) _ _ u l2 _ HS3.out ((HS2.out.below HB3.out.2).mono fun _ h => .inl h) HUD.out HD2.out HUN.out HN2.out (by have := HUL.out; omega) (by rw [HUM.out]; exact HGE.out)).mono ?_; rintro e w4 ⟨rfl, hb4⟩; have HS4 := Aside0.mk (HS3.out.below hb4); have HB4 := Aside0.mk (HB3.out.below hb4); clear hb4))
          go_roundw
          case rel => exact ⟨(n : Int) - 1, _, _, u, by omega, by omega, rfl, rfl, ⟨div_lt HI.out HM0.out HUD.out HUN.out HUM.out HGE.out, HS4.out, ⟨out, hol, HOD.out, HB4.out⟩⟩⟩
          case measure => simp [intOf]
    · obtain rfl : m = -1 := by omega
      obtain ⟨out, hol, hod, hok⟩ := HA.out.blk
      have HI := Aside0.mk (show DivInv l1 l2 r 0 from HA.out.inv)
      have HSr := Aside0.mk HA.out.sl
      have HOD := Aside0.mk hod
      have HBK := Aside0.mk hok
      clear hod hok HA
      go_wp2_with (go_at_call 32; refine (trim_any (fun k => P k ∨ w.heap.size ≤ k) _ out _ (HBK.out.sl (P := P) hol (by omega)) (by omega)).mono ?_; rintro e w4 ⟨v4, q, rfl, hS4, hp4, hb4⟩; have HS4 := Aside0.mk hS4; have HP4 := Aside0.mk hp4; have HS5 := Aside0.mk (HSr.out.below hb4); have HB4 := Aside0.mk (HBK.out.below hb4); clear hS4 hp4 hb4)
      go_ret2
      exact ⟨_, _, q, r, rfl, HS4.out.mono (fun k hk => by rcases hk with h | h; exact h; exact .inr (Nat.le_trans (Nat.le_of_lt HBK.out.lt) h)), HS5.out.mono pd_old, ⟨HP4.out.2.2.2 HOD.out, by have := HP4.out.2.2.1; omega⟩, ⟨HI.out.dig, HI.out.nrm, by have h := HI.out.val; simpa using h, HI.out.len HD2.out HM0.out⟩, HB4.out.2⟩

end Go.Proofs.Ytipnmcnacgmmnaa.WidemagDiv
