/- An integer that is not negative as a word of 64 bits: the walk. No condition beyond small lengths. -/
import Derived.Test.YtlhfmbpijcniaaaGreatWdSubW
import Derived.RegionTactic
import Derived.BigRegion
namespace Go.Proofs.YtlhfmbpijcniaaaGreat.WidemagDiv
open Go.RowKit Go.Proofs.YtlhfmbpijcniaaaGreat.PmagDiv Go.Proofs.YtlhfmbpijcniaaaGreatW.PrintWords Go.Proofs.YtlhfmbpijcniaaaGreatW.PrintLast Go.Proofs.YtlhfmbpijcniaaaGreatW.PrintMore
set_option linter.unusedVariables false
set_option linter.unusedSimpArgs false

theorem Two_lit (P : Nat → Prop) (n : Nat) (z p : Int) (B : Nat) (hz : z = (n : Int)) (hp : (2 : Int) ^ n = p) (hB : n / 32 + 1 ≤ B) (w : World) (hn : n ≤ 1000) : Calls Tryz.prog 13 #[.int .i64 z] w (RetW P w p B) := by
  subst hz
  subst hp
  exact (Two_any P n w hn).mono fun e w' ⟨v, h1, h2, h3⟩ => ⟨v, h1, h2.more hB, h3⟩
theorem or_hi (a d : Int) (ha : 0 ≤ a ∧ a ≤ 4294967295) (hd : 0 ≤ d ∧ d ≤ 4294967295) : Go.bits .or .u64 a (d * 4294967296) = a + 4294967296 * d := by
  obtain ⟨n, rfl⟩ := Int.eq_ofNat_of_zero_le ha.1
  obtain ⟨m, rfl⟩ := Int.eq_ofNat_of_zero_le hd.1
  have h1 : (BitVec.ofInt 64 (n : Int)).toNat = n := by
    rw [BitVec.ofInt_natCast, BitVec.toNat_ofNat]; exact Nat.mod_eq_of_lt (by omega)
  have h2 : (BitVec.ofInt 64 ((m : Int) * 4294967296)).toNat = 2 ^ 32 * m := by
    rw [show (m : Int) * 4294967296 = ((2 ^ 32 * m : Nat) : Int) by omega, BitVec.ofInt_natCast, BitVec.toNat_ofNat]; exact Nat.mod_eq_of_lt (by omega)
  show IntKind.u64.wrap ((BitVec.ofInt 64 (n : Int) ||| BitVec.ofInt 64 ((m : Int) * 4294967296)).toNat : Int) = _
  rw [BitVec.toNat_or, h1, h2, Nat.or_comm, ← Nat.two_pow_add_eq_or_of_lt (by omega), u64m]
  omega
theorem or_lo (d : Int) (hd : 0 ≤ d ∧ d ≤ 4294967295) : Go.bits .or .u64 0 d = d := by
  obtain ⟨m, rfl⟩ := Int.eq_ofNat_of_zero_le hd.1
  have h2 : (BitVec.ofInt 64 (m : Int)).toNat = m := by
    rw [BitVec.ofInt_natCast, BitVec.toNat_ofNat]; exact Nat.mod_eq_of_lt (by omega)
  show IntKind.u64.wrap ((BitVec.ofInt 64 (0 : Int) ||| BitVec.ofInt 64 (m : Int)).toNat : Int) = _
  rw [BitVec.toNat_or, h2, show (BitVec.ofInt 64 (0 : Int)).toNat = 0 from rfl, Nat.zero_or, u64m]
  omega
theorem mag_take1 {l : List Int} (h : 0 < l.length) : mag (l.take 1) = rd l ((0 : Nat) : Int) := by
  match l, h with
  | a :: t, _ => simp [mag, rd]
theorem mag_take2 {l : List Int} (h : 1 < l.length) : mag (l.take 2) = mag (l.take 1) + 4294967296 * rd l ((1 : Nat) : Int) := by
  match l, h with
  | a :: b :: t, _ => simp [mag, rd]
theorem mag_low2 {l : List Int} (hd : Dig l) : mag (l.take 2) = mag l % 18446744073709551616 := by
  by_cases h : l.length < 2
  · rw [List.take_of_length_le (by omega)]
    have h1 := mag_lt hd
    have h0 := mag_nonneg hd
    have h2 : mag l < 4294967296 := by
      rcases (show l.length = 0 ∨ l.length = 1 by omega) with e | e <;> rw [e] at h1 <;> simp [pw] at h1 <;> omega
    omega
  · have hc := mag_cut l 2 (by omega)
    have hlt := mag_lt (hd.take 2)
    have h0 := mag_nonneg (hd.take 2)
    rw [List.length_take, Nat.min_eq_left (by omega)] at hlt
    have hp : pw 2 = 18446744073709551616 := by simp [pw]
    rw [hp] at hc hlt
    omega
theorem p63 : (2 : Int) ^ 63 = 9223372036854775808 := by decide
theorem p64 : (2 : Int) ^ 64 = 18446744073709551616 := by decide
theorem cmpI_ge {x y : Int} (h : y ≤ x) : 0 ≤ cmpI x y := by unfold cmpI; rw [if_neg (by omega)]; split <;> omega

theorem made1 : madeCells #[Value.int .u64 0] 1 = #[Value.int .u64 0] := by
  apply Array.toList_inj.1
  apply List.ext_getElem
  · simp [madeCells]
  · intro i h1 h2
    simp [madeCells, Nat.mod_one]
/-- The block of the words: one word so far. -/
def TwR (w5 : World) (x : Int) (W : World) : Prop := W.heap[w5.heap.size]? = some (.cells #[.int .u64 x] 30 (0, 0)) ∧ Below w5.heap.size w5 W
theorem TwR.set {w5 W : World} {x : Int} (h : TwR w5 x W) (y : Int) : TwR w5 y (W.setCell ⟨w5.heap.size, 0, none⟩ (.int .u64 y)) := by
  refine ⟨?_, h.2.setCell (Nat.le_refl _) _⟩
  simp only [World.setCell, Array.getElem?_modify, if_pos, h.1]
  simp
theorem TwR.drew {w5 W : World} {x : Int} (h : TwR w5 x W) : TwR w5 x W.drew := ⟨h.1, h.2.drew⟩
theorem Sl.digits {P : Nat → Prop} {w : World} {A : Option Addr} {c : Nat} {l : List Int} (h : Sl P w (.slice A l.length c) l) : Kd.C (Kd.int .u32) w A l.length l := by
  obtain ⟨A', c', e, _, h3⟩ := h.shape
  cases e
  exact h3
/-- One word, in a block of the call's own. -/
def RetWord (w : World) (x : Int) (e : Ending) (w' : World) : Prop := ∃ g b, e = .returned (.tuple #[.slice (some ⟨g, 0, none⟩) 1 1, .bool b]) ∧ w.heap.size ≤ g ∧ w'.heap[g]? = some (.cells #[.int .u64 x] 30 (0, 0)) ∧ Below w.heap.size w w'
theorem TwR.cell {w5 W : World} {x : Int} (h : TwR w5 x W) : W.cell? ⟨w5.heap.size, 0, none⟩ = some (.int .u64 x) ∧ W.frozen? ⟨w5.heap.size, 0, none⟩ = false := by
  refine ⟨?_, by simp [World.frozen?, h.1]⟩
  rw [cell_of_row W w5.heap.size 0 _ 30 (0, 0) h.1]; rfl
theorem TwR.old {w5 W : World} {x : Int} (h : TwR w5 x W) {g : Nat} {o : Obj} (ho : w5.heap[g]? = some o) (hg : g < w5.heap.size) : W.heap[g]? = some o := (h.2.block _ hg).trans ho

set_option maxRecDepth 100000 in
set_option maxHeartbeats 4000000 in
theorem ToWords_pos (P : Nat → Prop) (v : Value) (z : Int) (B : Nat) (w : World) (hv : IsW P w v z B) (hz : 0 ≤ z) (hB : B ≤ 100000) :
    Calls Tryz.prog 17 #[v, .int .i64 1] w (RetWord w (z % 18446744073709551616)) := by
  obtain ⟨b, A, c, l, rfl, hS, hR, hl⟩ := hv.shape
  obtain rfl : b = false := by
    cases b with
    | false => rfl
    | true => have := hR.neg_lt rfl; omega
  have HS := Aside0.mk hS.old
  have HR := Aside0.mk hR
  have HB0 := Aside0.mk (Below.refl w.heap.size w)
  have T0 := Aside0.mk (heap_alloc_new w (.cells #[.bool false, .slice A l.length c] 27))
  have HMZ := Aside0.mk (show mag (l.take 2) = z % 18446744073709551616 by rw [mag_low2 hR.dig, ← hR.pos rfl])
  clear hS hR hv
  have hmk := print_make (P := Tryz.prog) 51 30 .u64 8 Tryz.underlying51 (by kernel_rfl) (by omega) 1 (by omega)
  rw [show ((1 : Nat) : Int) = 1 from rfl] at hmk
  go_enter Tryz.func17, Tryz.ntmps17
  go_wp2_with (go_at_call 13; refine (Two_lit (fun k => w.heap.size < k) 63 _ 9223372036854775808 2 rfl p63 (by omega) _ (by omega)).mono ?_; rintro e w1 ⟨v1, rfl, hW, hb⟩; have HW1 := Aside0.mk (hW.mono (Q := fun k => w.heap.size < k) (by intro k hk; simp at hk; omega)); have J1 := Aside0.mk (own_far hb T0.out (Nat.le_refl _)); have HB1 := Aside0.mk ((((Below.refl _ _).alloc (Nat.le_refl _) _).trans (hb.mono (by simp))) : Below w.heap.size w w1); have HZ1 := Aside0.mk (show w.heap.size < w1.heap.size by have := hb.size; simp at this; omega); obtain ⟨b1, A1, c1, l1, rfl, hS1, hR1, hl1⟩ := HW1.out.shape; have HS1 := Aside0.mk hS1; have HR1 := Aside0.mk hR1; clear hW hb hS1 hR1)
  have JA2 := Aside0.mk (show (w1.alloc (.cells #[.bool b1, .slice A1 l1.length c1] 27)).drew.heap[w.heap.size]? = _ from heap_old w1 _ J1.out)
  have JB2 := Aside0.mk (show (w1.alloc (.cells #[.bool b1, .slice A1 l1.length c1] 27)).drew.heap[w1.heap.size]? = _ from heap_alloc_new w1 _)
  have HBA := Aside0.mk (((Below.refl w1.heap.size w1).alloc (Nat.le_refl _) (.cells #[.bool b1, .slice A1 l1.length c1] 27)).drew)
  have HB2 := Aside0.mk (HB1.out.trans (HBA.out.mono HB1.out.size) : Below w.heap.size w (w1.alloc (.cells #[.bool b1, .slice A1 l1.length c1] 27)).drew)
  have HZ2 := Aside0.mk (Nat.lt_of_lt_of_le HZ1.out HBA.out.size)
  obtain ⟨ka2, kb2, _, _⟩ := struct_at JA2.out
  obtain ⟨kc2, kd2, _, _⟩ := struct_at JB2.out
  rcases Int.lt_trichotomy z 9223372036854775808 with hbig | hbig | hbig
  · have HCM := Aside0.mk (cmpI_lt hbig)
    have HCN := Aside0.mk (cmpI_gt (show -9223372036854775808 < z by omega))
    go_region_held3 (fun w' => w'.cell? ⟨w.heap.size, 0, none⟩ = some (.bool false) ∧ w'.cell? ⟨w.heap.size, 1, none⟩ = some (.slice A l.length c) ∧ w'.cell? ⟨w1.heap.size, 0, none⟩ = some (.bool b1) ∧ w'.cell? ⟨w1.heap.size, 1, none⟩ = some (.slice A1 l1.length c1)) (first | exact ⟨ka4, kb4, kc4, kd4⟩ | exact ⟨ka5, kb5, kc5, kd5⟩ | exact ⟨ka3, kb3, kc3, kd3⟩ | exact ⟨ka2, kb2, kc2, kd2⟩ | (go_keep; done)) (first | (go_at_call 18; refine (WideCmp_any (fun _ => True) _ _ z 9223372036854775808 (B + 2) _ (IsW.mk ((HS.out.mono fun _ _ => True.intro).below HB2.out) HR.out (by omega)) (IsW.mk ((HS1.out.mono fun _ _ => True.intro).below HBA.out) HR1.out (by omega)) (by omega)).mono ?_; rintro e w3 ⟨rfl, hb⟩; rw [HCM.out]; have JA3 := Aside0.mk (own_far hb JA2.out (Nat.le_refl _)); have JB3 := Aside0.mk (own_far hb JB2.out (Nat.le_refl _)); have HB3 := Aside0.mk (HB2.out.trans (hb.mono HB2.out.size) : Below w.heap.size w w3); have HZ3 := Aside0.mk (Nat.lt_of_lt_of_le HZ2.out hb.size); obtain ⟨ka3, kb3, _, _⟩ := struct_at JA3.out; obtain ⟨kc3, kd3, _, _⟩ := struct_at JB3.out; have HB3b := Aside0.mk (HBA.out.trans (hb.mono (by simp))); clear hb HBA) | (go_at_call 14; refine (Negated_any (fun k => w.heap.size < k) _ 9223372036854775808 2 _ (IsW.mk (HS1.out.below HB3b.out) HR1.out hl1) (by omega)).mono ?_; rintro e w4 ⟨v4, rfl, hW4, hb⟩; have HW4 := Aside0.mk (hW4.mono (Q := fun _ => True) fun _ _ => True.intro); have JA4 := Aside0.mk (own_far hb JA3.out (Nat.le_refl _)); have JB4 := Aside0.mk (own_far hb JB3.out (Nat.le_refl _)); have HB4 := Aside0.mk (HB3.out.trans (hb.mono HB3.out.size) : Below w.heap.size w w4); have HZ4 := Aside0.mk (Nat.lt_of_lt_of_le HZ3.out hb.size); obtain ⟨ka4, kb4, _, _⟩ := struct_at JA4.out; obtain ⟨kc4, kd4, _, _⟩ := struct_at JB4.out; clear hb hW4) | (go_at_call 18; refine (WideCmp_any (fun _ => True) _ _ z (-9223372036854775808) (B + 2) _ (IsW.mk ((HS.out.mono fun _ _ => True.intro).below HB4.out) HR.out (by omega)) (HW4.out.more (by omega)) (by omega)).mono ?_; rintro e w5 ⟨rfl, hb⟩; rw [HCN.out]; have JA5 := Aside0.mk (own_far hb JA4.out (Nat.le_refl _)); have JB5 := Aside0.mk (own_far hb JB4.out (Nat.le_refl _)); have HB5 := Aside0.mk (HB4.out.trans (hb.mono HB4.out.size) : Below w.heap.size w w5); have HZ5 := Aside0.mk (Nat.lt_of_lt_of_le HZ4.out hb.size); obtain ⟨ka5, kb5, _, _⟩ := struct_at JA5.out; obtain ⟨kc5, kd5, _, _⟩ := struct_at JB5.out; clear hb))
    go_wp2_with fail
    have HC5 := Aside0.mk (HS.out.below HB5.out).digits
    have HG0 := Aside0.mk (show TwR w5 (mag (l.take 0)) (w5.alloc (.cells (madeCells #[.int .u64 0] 1) 30)) from ⟨(heap_alloc_new w5 _).trans (by rw [made1]; rfl), (Below.refl _ _).alloc (Nat.le_refl _) _⟩)
    go_wp2_with fail
    go_loopw [47] (fun i W => (i = .int .i64 0 ∧ Aside0 (TwR w5 (mag (l.take 0)) W)) ∨ (i = .int .i64 1 ∧ Aside0 (TwR w5 (mag (l.take 2)) W))) (fun i _ => 1 - (intOf i).toNat)
    case atStart => exact .inl ⟨rfl, HG0⟩
    case round =>
      rcases hrel with ⟨rfl, HG⟩ | ⟨rfl, HG⟩
      · go_wp2_with fail
        go_loopw [12] (fun kv W => ∃ k : Nat, k ≤ 2 ∧ kv = .int .i64 k ∧ Aside0 (TwR w5 (mag (l.take k)) W)) (fun kv _ => 2 - (intOf kv).toNat)
        case atStart => exact ⟨0, by omega, rfl, HG⟩
        case round =>
          clear HG
          obtain ⟨k, hk, rfl, HG⟩ := hrel
          obtain ⟨gc, gf⟩ := HG.out.cell
          obtain ⟨pa, pb, _, _⟩ := struct_at (HG.out.old JA5.out HZ5.out)
          by_cases hk2 : k < 2
          · by_cases hkl : k < l.length
            · obtain ⟨ad, ea, hca⟩ := Kd.at_int (Kd.C_below HC5.out HG.out.2) (k : Int) (by omega) (by omega)
              subst ea
              rw [Int.toNat_natCast] at hca
              obtain ⟨hd0, hd1⟩ := rd_dig HR.out.dig k
              generalize hdk : rd l (k : Int) = dk at hca hd0 hd1
              obtain rfl | rfl : k = 0 ∨ k = 1 := by omega
              · rw [Addr.add_zero'] at hca
                have HV0 := Aside0.mk (show Go.bits .or .u64 (mag (l.take 0)) dk = mag (l.take (0 + 1)) by rw [mag_take1 hkl, hdk]; exact or_lo dk ⟨hd0, hd1⟩)
                clear hdk
                go_wp2_with fail
                go_region
                go_wp2_with fail
                go_roundw
                case rel => exact ⟨1, by omega, by go_num, ⟨by rw [← HV0.out]; exact (HG.out.set _).drew⟩⟩
                case measure => simp [intOf]
              · rw [Addr.add_succ'] at hca
                have HV1 := Aside0.mk (show Go.bits .or .u64 (mag (l.take 1)) (dk * 4294967296) = mag (l.take (1 + 1)) by rw [mag_take2 hkl, hdk]; exact or_hi _ dk (by rw [mag_take1 (by omega)]; exact rd_dig HR.out.dig 0) ⟨hd0, hd1⟩)
                clear hdk
                go_wp2_with fail
                go_region
                go_wp2_with fail
                go_roundw
                case rel => exact ⟨2, by omega, by go_num, ⟨by rw [← HV1.out]; exact (HG.out.set _).drew⟩⟩
                case measure => simp [intOf]
            · have HE := Aside0.mk (show mag (l.take (k + 1)) = mag (l.take k) by rw [List.take_of_length_le (by omega), List.take_of_length_le (by omega)])
              go_wp2_with fail
              go_roundw
              case rel => exact ⟨k + 1, by omega, by go_num, ⟨by rw [HE.out]; exact HG.out⟩⟩
              case measure => simp [intOf]; omega
          · obtain rfl : k = 2 := by omega
            go_wp2_with fail
            go_roundw
            case rel => exact .inr ⟨rfl, HG⟩
            case measure => simp [intOf]
      · go_wp2_with fail
        refine bodyPost_ret (v := .tuple #[.slice (some ⟨w5.heap.size, 0, none⟩) 1 1, _]) (by simp [results, Tryz.results17, go_sem]; rfl) rfl ?_
        exact ⟨_, _, rfl, HB5.out.size, HMZ.out ▸ HG.out.1, HB5.out.trans (HG.out.2.mono HB5.out.size)⟩
  · have HCM := Aside0.mk (show cmpI z 9223372036854775808 = 0 by rw [hbig]; simp [cmpI])
    clear hbig
    go_region_with (first | (go_at_call 18; refine (WideCmp_any (fun _ => True) _ _ z 9223372036854775808 (B + 2) _ (IsW.mk ((HS.out.mono fun _ _ => True.intro).below HB2.out) HR.out (by omega)) (IsW.mk ((HS1.out.mono fun _ _ => True.intro).below HBA.out) HR1.out (by omega)) (by omega)).mono ?_; rintro e w5 ⟨rfl, hb⟩; rw [HCM.out]; have JA5 := Aside0.mk (own_far hb JA2.out (Nat.le_refl _)); have JB5 := Aside0.mk (own_far hb JB2.out (Nat.le_refl _)); have HB5 := Aside0.mk (HB2.out.trans (hb.mono HB2.out.size) : Below w.heap.size w w5); have HZ5 := Aside0.mk (Nat.lt_of_lt_of_le HZ2.out hb.size); obtain ⟨ka5, kb5, _, _⟩ := struct_at JA5.out; obtain ⟨kc5, kd5, _, _⟩ := struct_at JB5.out; clear hb))
    all_goals
      have HC5 := Aside0.mk (HS.out.below HB5.out).digits
      have HG0 := Aside0.mk (show TwR w5 (mag (l.take 0)) (w5.alloc (.cells (madeCells #[.int .u64 0] 1) 30)) from ⟨(heap_alloc_new w5 _).trans (by rw [made1]; rfl), (Below.refl _ _).alloc (Nat.le_refl _) _⟩)
      go_wp2_with fail
      go_loopw [47] (fun i W => (i = .int .i64 0 ∧ Aside0 (TwR w5 (mag (l.take 0)) W)) ∨ (i = .int .i64 1 ∧ Aside0 (TwR w5 (mag (l.take 2)) W))) (fun i _ => 1 - (intOf i).toNat)
      case atStart => exact .inl ⟨rfl, HG0⟩
      case round =>
        rcases hrel with ⟨rfl, HG⟩ | ⟨rfl, HG⟩
        · go_wp2_with fail
          go_loopw [12] (fun kv W => ∃ k : Nat, k ≤ 2 ∧ kv = .int .i64 k ∧ Aside0 (TwR w5 (mag (l.take k)) W)) (fun kv _ => 2 - (intOf kv).toNat)
          case atStart => exact ⟨0, by omega, rfl, HG⟩
          case round =>
            clear HG
            obtain ⟨k, hk, rfl, HG⟩ := hrel
            obtain ⟨gc, gf⟩ := HG.out.cell
            obtain ⟨pa, pb, _, _⟩ := struct_at (HG.out.old JA5.out HZ5.out)
            by_cases hk2 : k < 2
            · by_cases hkl : k < l.length
              · obtain ⟨ad, ea, hca⟩ := Kd.at_int (Kd.C_below HC5.out HG.out.2) (k : Int) (by omega) (by omega)
                subst ea
                rw [Int.toNat_natCast] at hca
                obtain ⟨hd0, hd1⟩ := rd_dig HR.out.dig k
                generalize hdk : rd l (k : Int) = dk at hca hd0 hd1
                obtain rfl | rfl : k = 0 ∨ k = 1 := by omega
                · rw [Addr.add_zero'] at hca
                  have HV0 := Aside0.mk (show Go.bits .or .u64 (mag (l.take 0)) dk = mag (l.take (0 + 1)) by rw [mag_take1 hkl, hdk]; exact or_lo dk ⟨hd0, hd1⟩)
                  clear hdk
                  go_wp2_with fail
                  go_region
                  go_wp2_with fail
                  go_roundw
                  case rel => exact ⟨1, by omega, by go_num, ⟨by rw [← HV0.out]; exact (HG.out.set _).drew⟩⟩
                  case measure => simp [intOf]
                · rw [Addr.add_succ'] at hca
                  have HV1 := Aside0.mk (show Go.bits .or .u64 (mag (l.take 1)) (dk * 4294967296) = mag (l.take (1 + 1)) by rw [mag_take2 hkl, hdk]; exact or_hi _ dk (by rw [mag_take1 (by omega)]; exact rd_dig HR.out.dig 0) ⟨hd0, hd1⟩)
                  clear hdk
                  go_wp2_with fail
                  go_region
                  go_wp2_with fail
                  go_roundw
                  case rel => exact ⟨2, by omega, by go_num, ⟨by rw [← HV1.out]; exact (HG.out.set _).drew⟩⟩
                  case measure => simp [intOf]
              · have HE := Aside0.mk (show mag (l.take (k + 1)) = mag (l.take k) by rw [List.take_of_length_le (by omega), List.take_of_length_le (by omega)])
                go_wp2_with fail
                go_roundw
                case rel => exact ⟨k + 1, by omega, by go_num, ⟨by rw [HE.out]; exact HG.out⟩⟩
                case measure => simp [intOf]; omega
            · obtain rfl : k = 2 := by omega
              go_wp2_with fail
              go_roundw
              case rel => exact .inr ⟨rfl, HG⟩
              case measure => simp [intOf]
        · go_wp2_with fail
          refine bodyPost_ret (v := .tuple #[.slice (some ⟨w5.heap.size, 0, none⟩) 1 1, _]) (by simp [results, Tryz.results17, go_sem]; rfl) rfl ?_
          exact ⟨_, _, rfl, HB5.out.size, HMZ.out ▸ HG.out.1, HB5.out.trans (HG.out.2.mono HB5.out.size)⟩
  · have HCM := Aside0.mk (cmpI_gt hbig)
    clear hbig
    go_region_with (first | (go_at_call 18; refine (WideCmp_any (fun _ => True) _ _ z 9223372036854775808 (B + 2) _ (IsW.mk ((HS.out.mono fun _ _ => True.intro).below HB2.out) HR.out (by omega)) (IsW.mk ((HS1.out.mono fun _ _ => True.intro).below HBA.out) HR1.out (by omega)) (by omega)).mono ?_; rintro e w5 ⟨rfl, hb⟩; rw [HCM.out]; have JA5 := Aside0.mk (own_far hb JA2.out (Nat.le_refl _)); have JB5 := Aside0.mk (own_far hb JB2.out (Nat.le_refl _)); have HB5 := Aside0.mk (HB2.out.trans (hb.mono HB2.out.size) : Below w.heap.size w w5); have HZ5 := Aside0.mk (Nat.lt_of_lt_of_le HZ2.out hb.size); obtain ⟨ka5, kb5, _, _⟩ := struct_at JA5.out; obtain ⟨kc5, kd5, _, _⟩ := struct_at JB5.out; clear hb))
    all_goals
      have HC5 := Aside0.mk (HS.out.below HB5.out).digits
      have HG0 := Aside0.mk (show TwR w5 (mag (l.take 0)) (w5.alloc (.cells (madeCells #[.int .u64 0] 1) 30)) from ⟨(heap_alloc_new w5 _).trans (by rw [made1]; rfl), (Below.refl _ _).alloc (Nat.le_refl _) _⟩)
      go_wp2_with fail
      go_loopw [47] (fun i W => (i = .int .i64 0 ∧ Aside0 (TwR w5 (mag (l.take 0)) W)) ∨ (i = .int .i64 1 ∧ Aside0 (TwR w5 (mag (l.take 2)) W))) (fun i _ => 1 - (intOf i).toNat)
      case atStart => exact .inl ⟨rfl, HG0⟩
      case round =>
        rcases hrel with ⟨rfl, HG⟩ | ⟨rfl, HG⟩
        · go_wp2_with fail
          go_loopw [12] (fun kv W => ∃ k : Nat, k ≤ 2 ∧ kv = .int .i64 k ∧ Aside0 (TwR w5 (mag (l.take k)) W)) (fun kv _ => 2 - (intOf kv).toNat)
          case atStart => exact ⟨0, by omega, rfl, HG⟩
          case round =>
            clear HG
            obtain ⟨k, hk, rfl, HG⟩ := hrel
            obtain ⟨gc, gf⟩ := HG.out.cell
            obtain ⟨pa, pb, _, _⟩ := struct_at (HG.out.old JA5.out HZ5.out)
            by_cases hk2 : k < 2
            · by_cases hkl : k < l.length
              · obtain ⟨ad, ea, hca⟩ := Kd.at_int (Kd.C_below HC5.out HG.out.2) (k : Int) (by omega) (by omega)
                subst ea
                rw [Int.toNat_natCast] at hca
                obtain ⟨hd0, hd1⟩ := rd_dig HR.out.dig k
                generalize hdk : rd l (k : Int) = dk at hca hd0 hd1
                obtain rfl | rfl : k = 0 ∨ k = 1 := by omega
                · rw [Addr.add_zero'] at hca
                  have HV0 := Aside0.mk (show Go.bits .or .u64 (mag (l.take 0)) dk = mag (l.take (0 + 1)) by rw [mag_take1 hkl, hdk]; exact or_lo dk ⟨hd0, hd1⟩)
                  clear hdk
                  go_wp2_with fail
                  go_region
                  go_wp2_with fail
                  go_roundw
                  case rel => exact ⟨1, by omega, by go_num, ⟨by rw [← HV0.out]; exact (HG.out.set _).drew⟩⟩
                  case measure => simp [intOf]
                · rw [Addr.add_succ'] at hca
                  have HV1 := Aside0.mk (show Go.bits .or .u64 (mag (l.take 1)) (dk * 4294967296) = mag (l.take (1 + 1)) by rw [mag_take2 hkl, hdk]; exact or_hi _ dk (by rw [mag_take1 (by omega)]; exact rd_dig HR.out.dig 0) ⟨hd0, hd1⟩)
                  clear hdk
                  go_wp2_with fail
                  go_region
                  go_wp2_with fail
                  go_roundw
                  case rel => exact ⟨2, by omega, by go_num, ⟨by rw [← HV1.out]; exact (HG.out.set _).drew⟩⟩
                  case measure => simp [intOf]
              · have HE := Aside0.mk (show mag (l.take (k + 1)) = mag (l.take k) by rw [List.take_of_length_le (by omega), List.take_of_length_le (by omega)])
                go_wp2_with fail
                go_roundw
                case rel => exact ⟨k + 1, by omega, by go_num, ⟨by rw [HE.out]; exact HG.out⟩⟩
                case measure => simp [intOf]; omega
            · obtain rfl : k = 2 := by omega
              go_wp2_with fail
              go_roundw
              case rel => exact .inr ⟨rfl, HG⟩
              case measure => simp [intOf]
        · go_wp2_with fail
          refine bodyPost_ret (v := .tuple #[.slice (some ⟨w5.heap.size, 0, none⟩) 1 1, _]) (by simp [results, Tryz.results17, go_sem]; rfl) rfl ?_
          exact ⟨_, _, rfl, HB5.out.size, HMZ.out ▸ HG.out.1, HB5.out.trans (HG.out.2.mono HB5.out.size)⟩

end Go.Proofs.YtlhfmbpijcniaaaGreat.WidemagDiv
