/- Words of four bytes, the lowest first; slices of slices. -/
import Derived.Test.YtbghkoalmjfpiaaR4G
import Derived.StillTailTactics
import Derived.Laws.BitsLemmas
import Derived.Laws.BitsAllLaws
namespace Go.Proofs.Ytbghkoalmjfpiaa.Plain
open Go.RowKit Go.Proofs.YtbghkoalmjfpiaaW.PrintWords Go.Proofs.YtbghkoalmjfpiaaW.PrintLast Go.Proofs.YtbghkoalmjfpiaaW.PrintMore Go.Proofs.Ytbghkoalmjfpiaa.PBatchedValues
set_option linter.unusedVariables false
set_option linter.unusedSimpArgs false

/-! ### bits that lie apart -/
theorem bits_nat (kd : IntKind) (B : Nat) (hB : B ≤ kd.bits) (hk : ∀ n : Int, 0 ≤ n → n < 2 ^ kd.bits → kd.wrap n = n) (a b : Nat) (ha : a < 2 ^ B) (hb : b < 2 ^ B) : Go.bits .or kd (a : Int) (b : Int) = ((a ||| b : Nat) : Int) := by
  have hle : (2 : Nat) ^ B ≤ 2 ^ kd.bits := Nat.pow_le_pow_right (by omega) hB
  have key : ∀ n : Nat, n < 2 ^ B → kd.wrap (n : Int) = n := fun n hn => hk n (by omega) (by exact_mod_cast Nat.lt_of_lt_of_le hn hle)
  have toNat : ∀ n : Nat, n < 2 ^ B → (BitVec.ofInt kd.bits (n : Int)).toNat = n := by
    intro n hn
    rw [BitVec.ofInt_natCast, BitVec.toNat_ofNat]
    exact Nat.mod_eq_of_lt (Nat.lt_of_lt_of_le hn hle)
  show kd.wrap ((BitVec.ofInt kd.bits a ||| BitVec.ofInt kd.bits b).toNat : Int) = _
  rw [BitVec.toNat_or, toNat a ha, toNat b hb]
  exact key _ (Nat.or_lt_two_pow ha hb)
theorem or_add (kd : IntKind) (hk : ∀ n : Int, 0 ≤ n → n < 2 ^ kd.bits → kd.wrap n = n) (k : Nat) (x y : Int) (hx : 0 ≤ x ∧ x < 2 ^ k) (hy : 0 ≤ y) (h : x + y * 2 ^ k < 2 ^ kd.bits) : Go.bits .or kd x (y * 2 ^ k) = x + y * 2 ^ k := by
  obtain ⟨a, rfl⟩ := Int.eq_ofNat_of_zero_le hx.1
  obtain ⟨b, rfl⟩ := Int.eq_ofNat_of_zero_le hy
  have ha : a < 2 ^ k := by have h1 := hx.2; exact_mod_cast h1
  have hab : a + b * 2 ^ k < 2 ^ kd.bits := by exact_mod_cast h
  have e : (b : Int) * 2 ^ k = ((2 ^ k * b : Nat) : Int) := by rw [Nat.mul_comm]; push_cast; rfl
  rw [e, bits_nat kd kd.bits (Nat.le_refl _) hk a (2 ^ k * b) (by omega) (by rw [Nat.mul_comm]; omega), Nat.or_comm, ← Nat.two_pow_add_eq_or_of_lt ha]
  push_cast
  omega
theorem wraps_u32 (n : Int) (h0 : 0 ≤ n) (h1 : n < 2 ^ IntKind.u32.bits) : IntKind.u32.wrap n = n := by
  have e : (2 : Int) ^ IntKind.u32.bits = 4294967296 := rfl
  rw [IntKind.wrap_u32]; omega
theorem wraps_u64 (n : Int) (h0 : 0 ≤ n) (h1 : n < 2 ^ IntKind.u64.bits) : IntKind.u64.wrap n = n := by
  have e : (2 : Int) ^ IntKind.u64.bits = 18446744073709551616 := rfl
  rw [IntKind.wrap_u64]; omega
theorem or_u32 (k : Nat) (x y : Int) (hx : 0 ≤ x ∧ x < 2 ^ k) (hy : 0 ≤ y) (h : x + y * 2 ^ k < 4294967296) : Go.bits .or .u32 x (y * 2 ^ k) = x + y * 2 ^ k := or_add .u32 wraps_u32 k x y hx hy h
theorem or_u64 (k : Nat) (x y : Int) (hx : 0 ≤ x ∧ x < 2 ^ k) (hy : 0 ≤ y) (h : x + y * 2 ^ k < 18446744073709551616) : Go.bits .or .u64 x (y * 2 ^ k) = x + y * 2 ^ k := or_add .u64 wraps_u64 k x y hx hy h
theorem or_words (a b c d : Int) (ha : 0 ≤ a ∧ a ≤ 255) (hb : 0 ≤ b ∧ b ≤ 255) (hc : 0 ≤ c ∧ c ≤ 255) (hd : 0 ≤ d ∧ d ≤ 255) :
    Go.bits .or .u32 (Go.bits .or .u32 (Go.bits .or .u32 a (b * 256)) (c * 65536)) (d * 16777216) = a + 256 * b + 65536 * c + 16777216 * d := by
  have h1 := or_u32 8 a b (by omega) hb.1 (by omega)
  have h2 := or_u32 16 (a + b * 256) c (by omega) hc.1 (by omega)
  have h3 := or_u32 24 (a + b * 256 + c * 65536) d (by omega) hd.1 (by omega)
  rw [show (2 : Int) ^ 8 = 256 from rfl] at h1
  rw [show (2 : Int) ^ 16 = 65536 from rfl] at h2
  rw [show (2 : Int) ^ 24 = 16777216 from rfl] at h3
  rw [h1, h2, h3]
  omega
theorem ret_u32 {a b : Int} (h : a = b) : Ending.returned (.int .u32 a) = Ending.returned (.int .u32 b) := by rw [h]
theorem byte_range (x : Int) (k : Nat) : 0 ≤ byteAt x k ∧ byteAt x k ≤ 255 := by unfold byteAt; omega
theorem le4 (x : Int) (h0 : 0 ≤ x) (h1 : x < 4294967296) : byteAt x 0 + 256 * byteAt x 1 + 65536 * byteAt x 2 + 16777216 * byteAt x 3 = x := by
  simp [byteAt]
  omega
theorem le4_list (x : Int) : le x 4 = [byteAt x 0, byteAt x 1, byteAt x 2, byteAt x 3] := by simp [le, List.range_succ]
set_option maxRecDepth 100000 in
/-- Four bytes as a word. -/
theorem uint32_le (A : Option Addr) (n c : Nat) (xs : List Int) (x : Int) (w : World) (h : ReadsOf (Value.int .u8) (0 : Int) w A n xs) (hn : 4 ≤ n) (hx : xs.take 4 = le x 4) (h0 : 0 ≤ x) (h1 : x < 4294967296) :
    Calls Try.prog 77 #[.agg #[], .slice A n c] w fun e w' => e = .returned (.int .u32 x) ∧ Below w.heap.size w w' := by
  obtain ⟨hl, _, hc⟩ := h
  obtain ⟨ad, rfl, hcell⟩ := hc (by omega)
  have hg : ∀ j, j < 4 → xs.getD j 0 = byteAt x j := by
    intro j hj
    have e : xs[j]? = (le x 4)[j]? := by rw [← hx, List.getElem?_take, if_pos hj]
    rw [List.getD_eq_getElem?_getD, e]
    simp [le, hj]
  have c0 := hcell 0 (by omega)
  have c1 := hcell 1 (by omega)
  have c2 := hcell 2 (by omega)
  have c3 := hcell 3 (by omega)
  rw [hg 0 (by omega)] at c0
  rw [hg 1 (by omega)] at c1
  simp [Addr.add] at c1
  rw [hg 2 (by omega)] at c2
  simp [Addr.add] at c2
  rw [hg 3 (by omega)] at c3
  simp [Addr.add] at c3
  have c0' : w.cell? ad = some (.int .u8 (byteAt x 0)) := by simpa [Addr.add] using c0
  have hlt : ad.block < w.heap.size := by have := World.block_lt_of_cell? w _ c0'; exact this
  have HV := Aside0.mk (or_words _ _ _ _ (byte_range x 0) (byte_range x 1) (byte_range x 2) (byte_range x 3))
  have HX := Aside0.mk (le4 x h0 h1)
  obtain ⟨b00, b01⟩ := byte_range x 0
  obtain ⟨b10, b11⟩ := byte_range x 1
  obtain ⟨b20, b21⟩ := byte_range x 2
  obtain ⟨b30, b31⟩ := byte_range x 3
  generalize byteAt x 0 = y0 at c0 c0' b00 b01 HV HX
  generalize byteAt x 1 = y1 at c1 b10 b11 HV HX
  generalize byteAt x 2 = y2 at c2 b20 b21 HV HX
  generalize byteAt x 3 = y3 at c3 b30 b31 HV HX
  clear hc hcell hg hx h0 h1
  go_enter Try.func77, Try.ntmps77
  go_wp2_with fail
  go_region
  go_wp2_with fail
  go_ret
  exact ⟨ret_u32 (HV.out.trans HX.out), ((Below.refl _ _).alloc (Nat.le_refl _) _).drew⟩
/-- s[j:] under any kind of whole number. -/
theorem RdD.cutK (kl : IntKind) {W : World} {g : Nat} {A : Option Addr} {xs : List Int} (h : RdD W g A xs) (c j : Nat) (hj : j ≤ xs.length) (hc : xs.length ≤ c) :
    ∃ A', (∀ W : World, (Instr.slice 26 (.slice A xs.length c) (some (.int kl (j : Int))) none none).run Try.prog W = .ok (.slice A' (xs.drop j).length (c - j)) W) ∧ RdD W g A' (xs.drop j) ∧ (xs.drop j).length ≤ c - j := by
  obtain ⟨i, hi, hs⟩ := info5p
  obtain ⟨A', h1, h2, h3⟩ := print_drop_of (P := Try.prog) (Value.int .u8) 0 26 5 kl Try.underlying26 hi hs A c xs (j : Int) (by omega) (by omega) hc
  simp only [Int.toNat_natCast] at h1 h2 h3
  exact ⟨A', h1, fun wr hg => h2 wr (h wr hg), h3⟩
/-- s[4:j:j] likewise. -/
theorem RdD.mid {W : World} {g : Nat} {A : Option Addr} {xs : List Int} (h : RdD W g A xs) (c k : Nat) (hj : 4 + k ≤ xs.length) (hc : xs.length ≤ c) :
    ∃ A', (∀ W : World, (Instr.slice 26 (.slice A xs.length c) (some (.int .i64 4)) (some (.int .i32 ((k + 4 : Nat) : Int))) (some (.int .i32 ((k + 4 : Nat) : Int)))).run Try.prog W = .ok (.slice A' k k) W) ∧ RdD W g A' ((xs.drop 4).take k) := by
  obtain ⟨i, hi, hs⟩ := info5p
  have hel : Try.prog.elem 26 = 5 := by simp [Program.elem, Try.underlying26]
  have hu : Try.prog.underlying 26 = some (.slice (Try.prog.elem 26)) := by rw [hel]; exact Try.underlying26
  by_cases hk : k = 0
  · subst hk
    refine ⟨A, fun W => ?_, fun wr hg => ⟨by simp, by simp, fun h => absurd h (by simp)⟩⟩
    rw [run_slice_lhm W 26 A xs.length c hu .i64 .i32 .i32 4 _ _ (by omega) (by omega) (by omega) (by omega), hel]
    simp [sizeOf, typeInfo, hi, hs, sliced, Result.andThen]
  · obtain ⟨A', h1, h2, h3⟩ := print_drop_of (P := Try.prog) (Value.int .u8) 0 26 5 .i64 Try.underlying26 hi hs A c xs (4 : Int) (by omega) (by omega) hc
    refine ⟨A.map (·.add 4), fun W => ?_, fun wr hg => ?_⟩
    · rw [run_slice_lhm W 26 A xs.length c hu .i64 .i32 .i32 4 _ _ (by omega) (by omega) (by omega) (by omega), hel]
      simp [sizeOf, typeInfo, hi, hs, sliced, Result.andThen, hk]
      exact ⟨fun h => by omega, by omega⟩
    · have hr := h wr hg
      have h4 := (hr.drop_ (c := c) 4 (by omega) (by omega)).take_ k (by omega)
      rw [if_neg (by omega)] at h4
      have hl : ((xs.drop 4).take k).length = k := by rw [List.length_take, List.length_drop]; omega
      rw [hl]
      exact h4

end Go.Proofs.Ytbghkoalmjfpiaa.Plain
