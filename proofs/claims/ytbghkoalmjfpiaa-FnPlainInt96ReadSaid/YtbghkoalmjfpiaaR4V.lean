/- Words of eight bytes, the lowest first. -/
import Derived.Test.YtbghkoalmjfpiaaR4U
namespace Go.Proofs.Ytbghkoalmjfpiaa.Plain
open Go.RowKit Go.Proofs.YtbghkoalmjfpiaaW.PrintWords Go.Proofs.YtbghkoalmjfpiaaW.PrintLast Go.Proofs.YtbghkoalmjfpiaaW.PrintMore Go.Proofs.Ytbghkoalmjfpiaa.PBatchedValues
set_option linter.unusedVariables false
set_option linter.unusedSimpArgs false

theorem or_words8 (a b c d e f g h : Int) (ha : 0 ≤ a ∧ a ≤ 255) (hb : 0 ≤ b ∧ b ≤ 255) (hc : 0 ≤ c ∧ c ≤ 255) (hd : 0 ≤ d ∧ d ≤ 255) (he : 0 ≤ e ∧ e ≤ 255) (hf : 0 ≤ f ∧ f ≤ 255) (hg : 0 ≤ g ∧ g ≤ 255) (hh : 0 ≤ h ∧ h ≤ 255) :
    Go.bits .or .u64 (Go.bits .or .u64 (Go.bits .or .u64 (Go.bits .or .u64 (Go.bits .or .u64 (Go.bits .or .u64 (Go.bits .or .u64 a (b * 256)) (c * 65536)) (d * 16777216)) (e * 4294967296)) (f * 1099511627776)) (g * 281474976710656)) (h * 72057594037927936) =
      a + 256 * b + 65536 * c + 16777216 * d + 4294967296 * e + 1099511627776 * f + 281474976710656 * g + 72057594037927936 * h := by
  have h1 := or_u64 8 a b (by omega) hb.1 (by omega)
  have h2 := or_u64 16 (a + b * 256) c (by omega) hc.1 (by omega)
  have h3 := or_u64 24 (a + b * 256 + c * 65536) d (by omega) hd.1 (by omega)
  have h4 := or_u64 32 (a + b * 256 + c * 65536 + d * 16777216) e (by omega) he.1 (by omega)
  have h5 := or_u64 40 (a + b * 256 + c * 65536 + d * 16777216 + e * 4294967296) f (by omega) hf.1 (by omega)
  have h6 := or_u64 48 (a + b * 256 + c * 65536 + d * 16777216 + e * 4294967296 + f * 1099511627776) g (by omega) hg.1 (by omega)
  have h7 := or_u64 56 (a + b * 256 + c * 65536 + d * 16777216 + e * 4294967296 + f * 1099511627776 + g * 281474976710656) h (by omega) hh.1 (by omega)
  rw [show (2 : Int) ^ 8 = 256 from rfl] at h1
  rw [show (2 : Int) ^ 16 = 65536 from rfl] at h2
  rw [show (2 : Int) ^ 24 = 16777216 from rfl] at h3
  rw [show (2 : Int) ^ 32 = 4294967296 from rfl] at h4
  rw [show (2 : Int) ^ 40 = 1099511627776 from rfl] at h5
  rw [show (2 : Int) ^ 48 = 281474976710656 from rfl] at h6
  rw [show (2 : Int) ^ 56 = 72057594037927936 from rfl] at h7
  rw [h1, h2, h3, h4, h5, h6, h7]
  omega
theorem ret_u64 {a b : Int} (h : a = b) : Ending.returned (.int .u64 a) = Ending.returned (.int .u64 b) := by rw [h]
theorem le8 (x : Int) (h0 : 0 ≤ x) (h1 : x < 18446744073709551616) : byteAt x 0 + 256 * byteAt x 1 + 65536 * byteAt x 2 + 16777216 * byteAt x 3 + 4294967296 * byteAt x 4 + 1099511627776 * byteAt x 5 + 281474976710656 * byteAt x 6 + 72057594037927936 * byteAt x 7 = x := by
  simp [byteAt]
  omega
set_option maxRecDepth 100000 in
set_option maxHeartbeats 4000000 in
/-- Eight bytes as a word. -/
theorem uint64_le (A : Option Addr) (n c : Nat) (xs : List Int) (x : Int) (w : World) (h : ReadsOf (Value.int .u8) (0 : Int) w A n xs) (hn : 8 ≤ n) (hx : xs.take 8 = le x 8) (h0 : 0 ≤ x) (h1 : x < 18446744073709551616) :
    Calls Try.prog 105 #[.agg #[], .slice A n c] w fun e w' => e = .returned (.int .u64 x) ∧ Below w.heap.size w w' := by
  obtain ⟨hl, _, hc⟩ := h
  obtain ⟨ad, rfl, hcell⟩ := hc (by omega)
  have hg : ∀ j, j < 8 → xs.getD j 0 = byteAt x j := by
    intro j hj
    have e : xs[j]? = (le x 8)[j]? := by rw [← hx, List.getElem?_take, if_pos hj]
    rw [List.getD_eq_getElem?_getD, e]
    simp [le, hj]
  have c0 := hcell 0 (by omega)
  rw [hg 0 (by omega)] at c0
  have c0' : w.cell? ad = some (.int .u8 (byteAt x 0)) := by simpa [Addr.add] using c0
  have c1 := hcell 1 (by omega)
  rw [hg 1 (by omega)] at c1
  simp [Addr.add] at c1
  have c2 := hcell 2 (by omega)
  rw [hg 2 (by omega)] at c2
  simp [Addr.add] at c2
  have c3 := hcell 3 (by omega)
  rw [hg 3 (by omega)] at c3
  simp [Addr.add] at c3
  have c4 := hcell 4 (by omega)
  rw [hg 4 (by omega)] at c4
  simp [Addr.add] at c4
  have c5 := hcell 5 (by omega)
  rw [hg 5 (by omega)] at c5
  simp [Addr.add] at c5
  have c6 := hcell 6 (by omega)
  rw [hg 6 (by omega)] at c6
  simp [Addr.add] at c6
  have c7 := hcell 7 (by omega)
  rw [hg 7 (by omega)] at c7
  simp [Addr.add] at c7
  have hlt : ad.block < w.heap.size := by have := World.block_lt_of_cell? w _ c0'; exact this
  have HV := Aside0.mk (or_words8 _ _ _ _ _ _ _ _ (byte_range x 0) (byte_range x 1) (byte_range x 2) (byte_range x 3) (byte_range x 4) (byte_range x 5) (byte_range x 6) (byte_range x 7))
  have HX := Aside0.mk (le8 x h0 h1)
  obtain ⟨b00, b01⟩ := byte_range x 0
  obtain ⟨b10, b11⟩ := byte_range x 1
  obtain ⟨b20, b21⟩ := byte_range x 2
  obtain ⟨b30, b31⟩ := byte_range x 3
  obtain ⟨b40, b41⟩ := byte_range x 4
  obtain ⟨b50, b51⟩ := byte_range x 5
  obtain ⟨b60, b61⟩ := byte_range x 6
  obtain ⟨b70, b71⟩ := byte_range x 7
  generalize byteAt x 0 = y0 at c0 c0' b00 b01 HV HX
  generalize byteAt x 1 = y1 at c1 b10 b11 HV HX
  generalize byteAt x 2 = y2 at c2 b20 b21 HV HX
  generalize byteAt x 3 = y3 at c3 b30 b31 HV HX
  generalize byteAt x 4 = y4 at c4 b40 b41 HV HX
  generalize byteAt x 5 = y5 at c5 b50 b51 HV HX
  generalize byteAt x 6 = y6 at c6 b60 b61 HV HX
  generalize byteAt x 7 = y7 at c7 b70 b71 HV HX
  clear hc hcell hg hx h0 h1
  go_enter Try.func105, Try.ntmps105
  go_wp2_with fail
  go_quiet (fail)
  go_wp2_with fail
  go_ret
  exact ⟨ret_u64 (HV.out.trans HX.out), pw_below_drewN ((Below.refl _ _).alloc (Nat.le_refl _) _) _⟩

end Go.Proofs.Ytbghkoalmjfpiaa.Plain
