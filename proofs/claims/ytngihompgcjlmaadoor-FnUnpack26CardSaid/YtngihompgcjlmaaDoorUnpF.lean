/- Four bytes read in full out of a reader, as a word: the walks. -/
import Derived.Test.YtngihompgcjlmaaDoorUnpR
namespace Go.Proofs.YtngihompgcjlmaaDoor.Unp
open Go.RowKit Go.Proofs.YtngihompgcjlmaaDoorW.PrintWords Go.Proofs.YtngihompgcjlmaaDoorW.PrintLast Go.Proofs.YtngihompgcjlmaaDoorW.PrintMore
set_option linter.unusedVariables false
set_option linter.unusedSimpArgs false

theorem rd_byte {l : List Int} (h : Byt l) (i : Nat) : 0 ≤ rd l (i : Int) ∧ rd l (i : Int) ≤ 255 := by
  by_cases hi : i < l.length
  · have e : rd l (i : Int) = l[i] := by simp [rd, List.getD_eq_getElem?_getD, List.getElem?_eq_getElem hi]
    rw [e]; exact h _ (List.getElem_mem hi)
  · have e : rd l (i : Int) = 0 := by simp [rd, List.getD_eq_getElem?_getD, List.getElem?_eq_none (Nat.not_lt.1 hi)]
    omega
theorem nil_ahead (a : Addr) (w : World) : (nilAhead 177 34 (.pointer (some a)) "Read").run Tryd.prog w = .ok (some false) w := by kernel_rfl
theorem method_read (a : Addr) (w : World) : (method 177 34 (.pointer (some a)) "Read").run Tryd.prog w = .ok (60, .pointer (some a)) w := by kernel_rfl
set_option maxRecDepth 100000 in
set_option maxHeartbeats 4000000 in
theorem ReadAtLeast_any (g h : Nat) (A : Addr) (n c i t : Nat) (q : Int) (l : List Int) (x0 x1 x2 x3 : Value) (w0 w : World) (HC : (Kd.int .u8).C w0 (some A) n l) (HB : Below w0.heap.size w0 w) (hR : RdAt w g (some A) n c i q) (hH : w.heap[h]? = some (.cells #[x0, x1, x2, x3] t (0, 0)))
    (hn : i + 4 ≤ n) (hc : n ≤ c) (hcm : c ≤ 9223372036854775807) (hg : w0.heap.size ≤ g) (hgh : g < h) :
    Calls Tryd.prog 43 #[.iface 34 (.pointer (some ⟨g, 0, none⟩)), .slice (some ⟨h, 0, none⟩) 4 4, .int .i64 4] w (ReadPost w0 g h A n c i t l w) := by
  have HCH := Aside0.mk HC
  have HBH := Aside0.mk HB
  have HRH := Aside0.mk hR
  have HHH := Aside0.mk hH
  clear HC HB hR hH
  have na := fun a w => nil_ahead a w
  have mr := fun a w => method_read a w
  go_enter Tryd.func43, Tryd.ntmps43
  go_wp2_with fail
  go_loopw [6, 7] (fun nv ev W => (nv = .int .i64 0 ∧ ev = .nilIface ∧ Aside0 (W = w)) ∨ (nv = .int .i64 4 ∧ ev = .nilIface ∧ Aside0 (ReadPost w0 g h A n c i t l w (.returned (.tuple #[.int .i64 4, .nilIface])) W))) (fun nv _ _ => (4 - intOf nv).toNat)
  case atStart => exact .inl ⟨rfl, rfl, ⟨rfl⟩⟩
  case round =>
    rcases hrel with ⟨rfl, rfl, HW⟩ | ⟨rfl, rfl, HP⟩
    · obtain rfl := HW.out
      go_wp2_with fail
      go_region_with (go_at_call 60; refine (Read_any g h A n c i t q l x0 x1 x2 x3 w0 _ HCH.out HBH.out.drew HRH.out HHH.out hn hc hcm hg hgh).mono ?_; rintro e w2 ⟨rfl, hp⟩; have HP := Aside0.mk hp; clear hp)
      all_goals
        go_wp2_with fail
        go_roundw
        case rel => exact .inr ⟨rfl, rfl, ⟨rfl, HP.out⟩⟩
        case measure => simp [intOf]
    · go_wp2_with fail
      go_ret2
      exact HP.out

theorem ReadFull_any (g h : Nat) (A : Addr) (n c i t : Nat) (q : Int) (l : List Int) (x0 x1 x2 x3 : Value) (w0 w : World) (HC : (Kd.int .u8).C w0 (some A) n l) (HB : Below w0.heap.size w0 w) (hR : RdAt w g (some A) n c i q) (hH : w.heap[h]? = some (.cells #[x0, x1, x2, x3] t (0, 0)))
    (hn : i + 4 ≤ n) (hc : n ≤ c) (hcm : c ≤ 9223372036854775807) (hg : w0.heap.size ≤ g) (hgh : g < h) :
    Calls Tryd.prog 41 #[.iface 34 (.pointer (some ⟨g, 0, none⟩)), .slice (some ⟨h, 0, none⟩) 4 4] w (ReadPost w0 g h A n c i t l w) := by
  have HCH := Aside0.mk HC
  have HBH := Aside0.mk HB
  have HRH := Aside0.mk hR
  have HHH := Aside0.mk hH
  clear HC HB hR hH
  go_enter Tryd.func41, Tryd.ntmps41
  go_wp2_with (go_at_call 43; refine (ReadAtLeast_any g h A n c i t q l x0 x1 x2 x3 w0 _ HCH.out HBH.out HRH.out HHH.out hn hc hcm hg hgh).mono ?_; rintro e w2 ⟨rfl, hp⟩; have HP := Aside0.mk hp; clear hp)
  go_ret2
  exact ⟨rfl, HP.out⟩
/-- Bits that do not meet: 'or' adds. -/
theorem or_add (kd : IntKind) (hk : ∀ n : Int, 0 ≤ n → n < 2 ^ kd.bits → kd.wrap n = n) (k : Nat) (x y : Int) (hx : 0 ≤ x ∧ x < 2 ^ k) (hy : 0 ≤ y) (h : x + y * 2 ^ k < 2 ^ kd.bits) : Go.bits .or kd x (y * 2 ^ k) = x + y * 2 ^ k := by
  obtain ⟨a, rfl⟩ := Int.eq_ofNat_of_zero_le hx.1
  obtain ⟨b, rfl⟩ := Int.eq_ofNat_of_zero_le hy
  have ha : a < 2 ^ k := by have h1 := hx.2; exact_mod_cast h1
  have hab : a + b * 2 ^ k < 2 ^ kd.bits := by exact_mod_cast h
  have e : (b : Int) * 2 ^ k = ((2 ^ k * b : Nat) : Int) := by rw [Nat.mul_comm]; push_cast; rfl
  rw [e, (bits_nat kd kd.bits (Nat.le_refl _) hk a (2 ^ k * b) (by omega) (by rw [Nat.mul_comm]; omega)).2, Nat.or_comm, ← Nat.two_pow_add_eq_or_of_lt ha]
  push_cast
  omega
theorem wraps_u32 (n : Int) (h0 : 0 ≤ n) (h1 : n < 2 ^ IntKind.u32.bits) : IntKind.u32.wrap n = n := by
  have e : (2 : Int) ^ IntKind.u32.bits = 4294967296 := rfl
  rw [IntKind.wrap_u32]; omega
theorem wraps_u64 (n : Int) (h0 : 0 ≤ n) (h1 : n < 2 ^ IntKind.u64.bits) : IntKind.u64.wrap n = n := by
  have e : (2 : Int) ^ IntKind.u64.bits = 18446744073709551616 := rfl
  rw [IntKind.wrap_u64]; omega
theorem or_u32 (k : Nat) (x y : Int) (hx : 0 ≤ x ∧ x < 2 ^ k) (hy : 0 ≤ y) (h : x + y * 2 ^ k < 4294967296) : Go.bits .or .u32 x (y * 2 ^ k) = x + y * 2 ^ k := or_add .u32 wraps_u32 k x y hx hy h
theorem or_u64 (k : Nat) (x y : Int) (hx : 0 ≤ x ∧ x < 2 ^ k) (hy : 0 ≤ y) (h : x + y * 2 ^ k < 18446744073709551616) : Go.bits .or .u64 x (y * 2 ^ k) = x + y * 2 ^ k := or_add .u64 wraps_u64 k x y hx hy h
/-- Four bytes as a word, the lowest first. -/
theorem or_words (a b c d : Int) (ha : 0 ≤ a ∧ a ≤ 255) (hb : 0 ≤ b ∧ b ≤ 255) (hc : 0 ≤ c ∧ c ≤ 255) (hd : 0 ≤ d ∧ d ≤ 255) :
    Go.bits .or .u32 (Go.bits .or .u32 (Go.bits .or .u32 a (b * 256)) (c * 65536)) (d * 16777216) = a + 256 * b + 65536 * c + 16777216 * d := by
  have h1 := or_u32 8 a b (by omega) hb.1 (by omega)
  have h2 := or_u32 16 (a + b * 256) c (by omega) hc.1 (by omega)
  have h3 := or_u32 24 (a + b * 256 + c * 65536) d (by omega) hd.1 (by omega)
  rw [show (2 : Int) ^ 8 = 256 from rfl] at h1
  rw [show (2 : Int) ^ 16 = 65536 from rfl] at h2
  rw [show (2 : Int) ^ 24 = 16777216 from rfl] at h3
  rw [h1, h2, h3]
  omega
theorem ret_u32 {a b : Int} (h : a = b) : Ending.returned (.int .u32 a) = Ending.returned (.int .u32 b) := by rw [h]
theorem Uint32_any (h t : Nat) (l : List Int) (i : Nat) (x : Value) (w : World) (hH : w.heap[h]? = some (.cells (four l i).toArray t (0, 0))) (hb : Byt l) :
    Calls Tryd.prog 42 #[.agg #[], .slice (some ⟨h, 0, none⟩) 4 4] w (fun e w' => e = .returned (.int .u32 (rd l (i : Int) + 256 * rd l ((i + 1 : Nat) : Int) + 65536 * rd l ((i + 2 : Nat) : Int) + 16777216 * rd l ((i + 3 : Nat) : Int))) ∧ Below w.heap.size w w') := by
  have c0 : w.cell? ⟨h, 0, none⟩ = some (.int .u8 (rd l (i : Int))) := by rw [cell_of_row w h 0 _ t (0, 0) hH]; rfl
  have c1 : w.cell? ⟨h, 1, none⟩ = some (.int .u8 (rd l ((i + 1 : Nat) : Int))) := by rw [cell_of_row w h 1 _ t (0, 0) hH]; rfl
  have c2 : w.cell? ⟨h, 2, none⟩ = some (.int .u8 (rd l ((i + 2 : Nat) : Int))) := by rw [cell_of_row w h 2 _ t (0, 0) hH]; rfl
  have c3 : w.cell? ⟨h, 3, none⟩ = some (.int .u8 (rd l ((i + 3 : Nat) : Int))) := by rw [cell_of_row w h 3 _ t (0, 0) hH]; rfl
  have hlt : h < w.heap.size := (Array.getElem?_eq_some_iff.1 hH).1
  have b0 := rd_byte hb i
  have b1 := rd_byte hb (i + 1)
  have b2 := rd_byte hb (i + 2)
  have b3 := rd_byte hb (i + 3)
  generalize rd l (i : Int) = y0 at c0 b0 ⊢
  generalize rd l ((i + 1 : Nat) : Int) = y1 at c1 b1 ⊢
  generalize rd l ((i + 2 : Nat) : Int) = y2 at c2 b2 ⊢
  generalize rd l ((i + 3 : Nat) : Int) = y3 at c3 b3 ⊢
  have HV := Aside0.mk (or_words y0 y1 y2 y3 b0 b1 b2 b3)
  obtain ⟨b00, b01⟩ := b0
  obtain ⟨b10, b11⟩ := b1
  obtain ⟨b20, b21⟩ := b2
  obtain ⟨b30, b31⟩ := b3
  clear hH
  go_enter Tryd.func42, Tryd.ntmps42
  go_wp2_with fail
  go_region
  go_wp2_with fail
  go_ret
  exact ⟨ret_u32 HV.out, ((Below.refl _ _).alloc (Nat.le_refl _) _).drew⟩

theorem rd_at (l : List Int) (i : Nat) (h : i < l.length) : rd l (i : Int) = l[i] := by simp [rd, List.getD_eq_getElem?_getD, List.getElem?_eq_getElem h]
theorem word_rd {l : List Int} (h : Byt l) (m : Nat) (hm : 4 * m + 4 ≤ l.length) : rd l ((4 * m : Nat) : Int) + 256 * rd l ((4 * m + 1 : Nat) : Int) + 65536 * rd l ((4 * m + 2 : Nat) : Int) + 16777216 * rd l ((4 * m + 3 : Nat) : Int) = word (num l) m := by
  rw [rd_at l _ (by omega), rd_at l _ (by omega), rd_at l _ (by omega), rd_at l _ (by omega)]
  refine (word_four h m _ _ _ _ (l.drop (4 * m + 4)) ?_).symm
  rw [List.drop_eq_getElem_cons (show 4 * m < l.length by omega), List.drop_eq_getElem_cons (show 4 * m + 1 < l.length by omega), List.drop_eq_getElem_cons (show 4 * m + 1 + 1 < l.length by omega), List.drop_eq_getElem_cons (show 4 * m + 1 + 1 + 1 < l.length by omega)]
theorem Uint32_word (h : Nat) (l : List Int) (m : Nat) (w : World) (hH : w.heap[h]? = some (.cells (four l (4 * m)).toArray 47 (0, 0))) (hb : Byt l) (hm : 4 * m + 4 ≤ l.length) :
    Calls Tryd.prog 42 #[.agg #[], .slice (some ⟨h, 0, none⟩) 4 4] w (fun e w' => e = .returned (.int .u32 (word (num l) m)) ∧ Below w.heap.size w w') := by
  refine (Uint32_any h 47 l (4 * m) .nilIface w hH hb).mono ?_
  rintro e w' ⟨rfl, h⟩
  exact ⟨ret_u32 (word_rd hb m hm), h⟩
/-- A word in a variable of the call's own. -/
def WdAt (W : World) (p : Nat) (x : Int) : Prop := W.heap[p]? = some (.cells #[.int .u32 x] 30 (0, 0))
theorem WdAt.cell {W : World} {p : Nat} {x : Int} (h : WdAt W p x) : W.cell? ⟨p, 0, none⟩ = some (.int .u32 x) ∧ W.frozen? ⟨p, 0, none⟩ = false := by
  have h' : W.heap[p]? = some (.cells #[.int .u32 x] 30 (0, 0)) := h
  refine ⟨?_, by simp [World.frozen?, h']⟩
  rw [cell_of_row W p 0 _ 30 (0, 0) h']; rfl
theorem WdAt.set {W : World} {p : Nat} {x y : Int} (h : WdAt W p x) : WdAt (W.setCell ⟨p, 0, none⟩ (.int .u32 y)) p y := by
  have h' : W.heap[p]? = some (.cells #[.int .u32 x] 30 (0, 0)) := h
  show (W.setCell ⟨p, 0, none⟩ (.int .u32 y)).heap[p]? = _
  simp only [World.setCell, Array.getElem?_modify, if_pos, h']
  simp
def LittlePost (w0 : World) (g p : Nat) (A : Addr) (n c m : Nat) (l : List Int) (w : World) (e : Ending) (w' : World) : Prop :=
  e = .returned (.tuple #[]) ∧ RdAt w' g (some A) n c (4 * (m + 1)) (-1) ∧ WdAt w' p (word (num l) m) ∧ (∀ k, k < w.heap.size → k ≠ g → k ≠ p → w'.heap[k]? = w.heap[k]?) ∧ Below w0.heap.size w0 w' ∧ w.heap.size ≤ w'.heap.size
set_option maxRecDepth 100000 in
set_option maxHeartbeats 4000000 in
theorem readLittle_any (g p : Nat) (A : Addr) (n c m : Nat) (q x : Int) (l : List Int) (w0 w : World) (HC : (Kd.int .u8).C w0 (some A) n l) (HL : l.length = n) (HT : Byt l) (HB : Below w0.heap.size w0 w) (hR : RdAt w g (some A) n c (4 * m) q) (hP : WdAt w p x)
    (hn : 4 * m + 4 ≤ n) (hc : n ≤ c) (hcm : c ≤ 9223372036854775807) (hg : w0.heap.size ≤ g) (hp : w0.heap.size ≤ p) (hgp : g ≠ p) :
    Calls Tryd.prog 40 #[.iface 34 (.pointer (some ⟨g, 0, none⟩)), .pointer (some ⟨p, 0, none⟩)] w (LittlePost w0 g p A n c m l w) := by
  have hgl : g < w.heap.size := (Array.getElem?_eq_some_iff.1 hR).1
  have hpl : p < w.heap.size := (Array.getElem?_eq_some_iff.1 hP).1
  have HCH := Aside0.mk HC
  have HBH := Aside0.mk HB
  have HRH := Aside0.mk hR
  have HPH := Aside0.mk hP
  have HTH := Aside0.mk HT
  have HLH := Aside0.mk HL
  clear HC HB hR hP HT HL
  go_enter Tryd.func40, Tryd.ntmps40
  go_wp2_with (go_at_call 41; refine (ReadFull_any g w.heap.size A n c (4 * m) 47 q l _ _ _ _ w0 _ HCH.out (HBH.out.alloc HBH.out.size _) (show RdAt (w.alloc _) g (some A) n c (4 * m) q from (Below.heap_alloc w _ g hgl).trans HRH.out) (heap_alloc_new w _) hn hc hcm hg hgl).mono ?_; rintro e w2 ⟨rfl, hr2, hb2, hk2, hB2, hs2⟩; have HR2 := Aside0.mk hr2; have HH2 := Aside0.mk hb2; have HB2 := Aside0.mk hB2; have HS2 := Aside0.mk (show w.heap.size < w2.heap.size by simp at hs2; omega); have HK2 := Aside0.mk (show ∀ k, k < w.heap.size → k ≠ g → w2.heap[k]? = w.heap[k]? from fun k hk hkg => (hk2 k hk hkg).trans (Below.heap_alloc w _ k hk)); have HW2 := Aside0.mk (show WdAt w2 p x from (HK2.out p hpl (Ne.symm hgp)).trans HPH.out); obtain ⟨pc, pf⟩ := HW2.out.cell; clear hr2 hb2 hk2 hB2 hs2)
  have HLL := Aside0.mk (show 4 * m + 4 ≤ l.length by rw [HLH.out]; exact hn)
  go_region_with (go_at_call 42; refine (Uint32_word w.heap.size l m w2.drew HH2.out HTH.out HLL.out).mono ?_; rintro e w3 ⟨rfl, hb3⟩; have HB3 := Aside0.mk (show Below w2.heap.size w2 w3 from (Below.refl _ _).drew.trans hb3); have HW3 := Aside0.mk (show WdAt w3 p x from (HB3.out.block p (Nat.lt_trans hpl HS2.out)).trans HW2.out); obtain ⟨pc3, pf3⟩ := HW3.out.cell; clear hb3)
  all_goals
    go_wp2_with fail
    go_end0
    refine ⟨rfl, ?_, HW3.out.set, ?_, ?_, ?_⟩
    · exact (Below.heap_setCell w3 _ _ g hgp).trans ((HB3.out.block g (Nat.lt_trans hgl HS2.out)).trans HR2.out)
    · intro k hk hkg hkp
      exact (Below.heap_setCell w3 _ _ k hkp).trans ((HB3.out.block k (Nat.lt_trans hk HS2.out)).trans (HK2.out k hk hkg))
    · exact (HB2.out.trans (HB3.out.mono HB2.out.size)).setCell hp _
    · have h1 := HB3.out.size
      have h2 := HS2.out
      simp
      omega

end Go.Proofs.YtngihompgcjlmaaDoor.Unp
