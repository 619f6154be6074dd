/- Bits in a row of bytes in place: one is set, 32 are packed. -/
import Derived.Test.YtmdmpdbnnegpiaaGreatDoorCmC0
namespace Go.Proofs.YtmdmpdbnnegpiaaGreatDoor.Cmp
open Go.RowKit Go.Proofs.YtmdmpdbnnegpiaaGreatDoorW.PrintWords Go.Proofs.YtmdmpdbnnegpiaaGreatDoorW.PrintLast Go.Proofs.YtmdmpdbnnegpiaaGreatDoorW.PrintMore
set_option linter.unusedVariables false
set_option linter.unusedSimpArgs false

/-- The listed variables' cells. -/
def Masks (w : World) : Prop := (∀ k : Nat, k < 8 → w.cell? ⟨2, k, none⟩ = some (.int .u8 ((2 ^ k : Nat) : Int))) ∧ (∀ k : Nat, k < 8 → w.cell? ⟨3, k, none⟩ = some (.int .u8 ((255 - 2 ^ k : Nat) : Int)))
theorem cell_lt {w : World} {p : Addr} {v : Value} (h : w.cell? p = some v) : p.block < w.heap.size := by
  rcases Nat.lt_or_ge p.block w.heap.size with hlt | hge
  · exact hlt
  · simp [World.cell?, Array.getElem?_eq_none hge] at h
theorem Masks.lt {w : World} (h : Masks w) : 3 < w.heap.size := cell_lt (h.2 0 (by omega))
theorem Masks.grown {w w' : World} {g : Nat} (h : Masks w) (hg : w.grownBy w' (some g)) (h4 : 4 ≤ g) : Masks w' := by
  have hl := h.lt
  have e2 := hg.block 2 (by omega) (fun e => by have := Option.some.inj e; omega)
  have e3 := hg.block 3 (by omega) (fun e => by have := Option.some.inj e; omega)
  exact ⟨fun k hk => by rw [← h.1 k hk]; simp [World.cell?, e2], fun k hk => by rw [← h.2 k hk]; simp [World.cell?, e3]⟩
theorem Masks.below {w w' : World} {B : Nat} (h : Masks w) (hb : Below B w w') (h4 : 4 ≤ B) : Masks w' := by
  exact ⟨fun k hk => (hb.cell (p := ⟨2, k, none⟩) (show 2 < B by omega)).trans (h.1 k hk), fun k hk => (hb.cell (p := ⟨3, k, none⟩) (show 3 < B by omega)).trans (h.2 k hk)⟩
/-- A row of bytes in a block; rest: what stands behind it. -/
def W8 (w : World) (g : Nat) (T : TypeId) (rest : List Value) (bs : List Int) : Prop := w.heap[g]? = some (.cells (bs.map (Value.int .u8) ++ rest).toArray T (0, 0))
theorem W8.cell {w : World} {g : Nat} {T : TypeId} {rest : List Value} {bs : List Int} (h : W8 w g T rest bs) (i : Nat) (hi : i < bs.length) : w.cell? ⟨g, i, none⟩ = some (.int .u8 (bs.getD i 0)) := by
  rw [blk_cell h]
  rw [List.getElem?_toArray, List.getElem?_append_left (by simpa using hi)]
  simp [List.getD_eq_getElem?_getD, List.getElem?_eq_getElem hi]
theorem W8.frozen {w : World} {g : Nat} {T : TypeId} {rest : List Value} {bs : List Int} (h : W8 w g T rest bs) (i : Nat) : w.frozen? ⟨g, i, none⟩ = false := blk_frozen h i
theorem W8.put {w : World} {g : Nat} {T : TypeId} {rest : List Value} {bs : List Int} (h : W8 w g T rest bs) (i : Nat) (hi : i < bs.length) (x : Int) : W8 (w.setCell ⟨g, i, none⟩ (.int .u8 x)) g T rest (bs.set i x) := by
  unfold W8
  rw [blk_set h]
  simp [List.set_append_left, hi]
/-- Bits of a row are turned. -/
def Put (w : World) (g : Nat) (T : TypeId) (rest : List Value) (bs : List Int) (lo n : Nat) (f : Nat → Bool) (e : Ending) (w' : World) : Prop :=
  e = .returned (.tuple #[]) ∧ w.grownBy w' (some g) ∧ ∃ bs', W8 w' g T rest bs' ∧ BitsAre bs bs' lo n f
set_option maxRecDepth 100000 in
set_option maxHeartbeats 4000000 in
theorem setBit (g o n c i : Nat) (T : TypeId) (rest : List Value) (bs : List Int) (w : World) (hM : Masks w) (hw : W8 w g T rest bs) (hb : Bytes bs) (hn : o + n ≤ bs.length) (hi : i / 8 < n) (hs : i ≤ 100000) :
    Calls Tryz.prog 106 #[.slice (some ⟨g, o, none⟩) n c, .int .i64 i] w (Put w g T rest bs (8 * o + i) 1 (fun _ => true)) := by
  obtain ⟨j, hj⟩ : ∃ j, i / 8 = j := ⟨_, rfl⟩
  obtain ⟨r, hr⟩ : ∃ r, i % 8 = r := ⟨_, rfl⟩
  have hr8 : r < 8 := by omega
  have g0 := hw.cell (o + j) (by omega)
  have z0 := hw.frozen (o + j)
  have g1 := hM.1 r hr8
  have e1 : IntKind.u64.wrap (i : Int) = (i : Int) := by rw [IntKind.wrap_u64]; omega
  have e2 : (IntKind.u8.wrap (i : Int)).tmod 8 = (r : Int) := by rw [IntKind.wrap_u8, Int.tmod_eq_emod_of_nonneg (by omega)]; omega
  have e3 : (i : Int).tdiv 8 = (j : Int) := by rw [Int.tdiv_eq_ediv_of_nonneg (by omega)]; omega
  have e4 : IntKind.u64.wrap (j : Int) = (j : Int) := by rw [IntKind.wrap_u64]; omega
  have hjn : j < n := by omega
  obtain ⟨b, hbv⟩ : ∃ b, bs.getD (o + j) 0 = b := ⟨_, rfl⟩
  obtain ⟨m, hm⟩ : ∃ m : Int, ((2 ^ r : Nat) : Int) = m := ⟨_, rfl⟩
  rw [hbv] at g0
  rw [hm] at g1
  have HW := Aside0.mk hw
  have HB := Aside0.mk hb
  have HJ := Aside0.mk hj
  have HR := Aside0.mk hr
  have HV := Aside0.mk hbv
  have HM := Aside0.mk hm
  clear hM hw hb hj hr hi hbv hm
  go_enter Tryz.func106, Tryz.ntmps106
  have hr0 : (r : Int) < 8 := by omega
  go_still_tail 13, (by kernel_rfl)
  go_wp2
  go_end0
  have hjb : o + j < bs.length := by omega
  have hmk := mask_set b r hr8 (by rw [← HV.out]; exact (HB.out.at _).1) (by rw [← HV.out]; exact (HB.out.at _).2) m HM.out.symm
  have hdiv : (8 * o + i) / 8 = o + j := by have := HJ.out; omega
  have hmod : (8 * o + i) % 8 = r := by have := HR.out; omega
  have hone := BitsAre.one HB.out (8 * o + i) true (Go.bits .or .u8 b m) (by rw [hdiv]; exact hjb) hmk.1 hmk.2.1 (fun k hk => by rw [hdiv, hmod, HV.out]; exact hmk.2.2 k hk)
  rw [hdiv] at hone
  exact ⟨rfl, gb_drew (gb_set (p := ⟨g, o + j, none⟩) (World.grownBy.refl _ _) (.inl rfl) _), bs.set (o + j) (Go.bits .or .u8 b m), HW.out.put (o + j) hjb _, hone⟩
set_option maxRecDepth 100000 in
set_option maxHeartbeats 4000000 in
theorem clearBit (g o n c i : Nat) (T : TypeId) (rest : List Value) (bs : List Int) (w : World) (hM : Masks w) (hw : W8 w g T rest bs) (hb : Bytes bs) (hn : o + n ≤ bs.length) (hi : i / 8 < n) (hs : i ≤ 100000) :
    Calls Tryz.prog 107 #[.slice (some ⟨g, o, none⟩) n c, .int .i64 i] w (Put w g T rest bs (8 * o + i) 1 (fun _ => false)) := by
  obtain ⟨j, hj⟩ : ∃ j, i / 8 = j := ⟨_, rfl⟩
  obtain ⟨r, hr⟩ : ∃ r, i % 8 = r := ⟨_, rfl⟩
  have hr8 : r < 8 := by omega
  have g0 := hw.cell (o + j) (by omega)
  have z0 := hw.frozen (o + j)
  have g1 := hM.2 r hr8
  have e1 : IntKind.u64.wrap (i : Int) = (i : Int) := by rw [IntKind.wrap_u64]; omega
  have e2 : (IntKind.u8.wrap (i : Int)).tmod 8 = (r : Int) := by rw [IntKind.wrap_u8, Int.tmod_eq_emod_of_nonneg (by omega)]; omega
  have e3 : (i : Int).tdiv 8 = (j : Int) := by rw [Int.tdiv_eq_ediv_of_nonneg (by omega)]; omega
  have e4 : IntKind.u64.wrap (j : Int) = (j : Int) := by rw [IntKind.wrap_u64]; omega
  have hjn : j < n := by omega
  obtain ⟨b, hbv⟩ : ∃ b, bs.getD (o + j) 0 = b := ⟨_, rfl⟩
  obtain ⟨m, hm⟩ : ∃ m : Int, ((255 - 2 ^ r : Nat) : Int) = m := ⟨_, rfl⟩
  rw [hbv] at g0
  rw [hm] at g1
  have HW := Aside0.mk hw
  have HB := Aside0.mk hb
  have HJ := Aside0.mk hj
  have HR := Aside0.mk hr
  have HV := Aside0.mk hbv
  have HM := Aside0.mk hm
  clear hM hw hb hj hr hi hbv hm
  go_enter Tryz.func107, Tryz.ntmps107
  have hr0 : (r : Int) < 8 := by omega
  go_still_tail 13, (by kernel_rfl)
  go_wp2
  go_end0
  have hjb : o + j < bs.length := by omega
  have hmk := mask_clear b r hr8 (by rw [← HV.out]; exact (HB.out.at _).1) (by rw [← HV.out]; exact (HB.out.at _).2) m HM.out.symm
  have hdiv : (8 * o + i) / 8 = o + j := by have := HJ.out; omega
  have hmod : (8 * o + i) % 8 = r := by have := HR.out; omega
  have hone := BitsAre.one HB.out (8 * o + i) false (Go.bits .and .u8 b m) (by rw [hdiv]; exact hjb) hmk.1 hmk.2.1 (fun k hk => by rw [hdiv, hmod, HV.out]; exact hmk.2.2 k hk)
  rw [hdiv] at hone
  exact ⟨rfl, gb_drew (gb_set (p := ⟨g, o + j, none⟩) (World.grownBy.refl _ _) (.inl rfl) _), bs.set (o + j) (Go.bits .and .u8 b m), HW.out.put (o + j) hjb _, hone⟩
set_option maxRecDepth 100000 in
set_option maxHeartbeats 4000000 in
theorem setBitTo (g o n c i : Nat) (b : Bool) (T : TypeId) (rest : List Value) (bs : List Int) (w : World) (hM : Masks w) (hw : W8 w g T rest bs) (hb : Bytes bs) (hn : o + n ≤ bs.length) (hi : i / 8 < n) (hs : i ≤ 100000) :
    Calls Tryz.prog 90 #[.slice (some ⟨g, o, none⟩) n c, .int .i64 i, .bool b] w (Put w g T rest bs (8 * o + i) 1 (fun _ => b)) := by
  have HS := Aside0.mk (setBit g o n c i T rest bs w hM hw hb hn hi hs)
  have HC := Aside0.mk (clearBit g o n c i T rest bs w hM hw hb hn hi hs)
  clear hM hw hb hn hi
  cases b
  · go_enter Tryz.func90, Tryz.ntmps90
    go_wp2_with (go_at_call 107; refine HC.out.mono ?_; rintro e w1 ⟨rfl, h1⟩; have H1 := Aside0.mk h1; clear h1)
    go_end0
    exact ⟨rfl, H1.out⟩
  · go_enter Tryz.func90, Tryz.ntmps90
    go_wp2_with (go_at_call 106; refine HS.out.mono ?_; rintro e w1 ⟨rfl, h1⟩; have H1 := Aside0.mk h1; clear h1)
    go_end0
    exact ⟨rfl, H1.out⟩
theorem cutA {P : Program} (t e : TypeId) (kl : IntKind) {i : TypeInfo} (ht : P.underlying t = some (.slice e)) (hi : P.info? e = some i) (hsz : i.size = 1) (A : Option Addr) (g p n c m : Nat) (hA : 0 < n → A = some ⟨g, p, none⟩) (hm : m ≤ n) (hc : n ≤ c) :
    ∃ A' : Option Addr, (∀ W : World, (Instr.slice t (.slice A n c) (some (.int kl (m : Int))) none none).run P W = .ok (.slice A' (n - m) (c - m)) W) ∧ (0 < n - m → A' = some ⟨g, p + m, none⟩) := by
  refine ⟨if c = m then A else A.map (·.add m), fun W => ?_, fun h => ?_⟩
  · have hel : P.elem t = e := by simp [Program.elem, ht]
    have hu : P.underlying t = some (.slice (P.elem t)) := by rw [hel]; exact ht
    rw [run_slice_l W t A n c hu kl (m : Int) (Int.natCast_nonneg _) (by omega), hel]
    simp [sizeOf, typeInfo, hi, hsz, sliced, Result.andThen]
  · rw [if_neg (by omega), hA (by omega)]
    simp [Addr.add]
theorem info5p : ∃ i, Tryz.prog.info? 5 = some i ∧ i.size = 1 := by
  obtain ⟨i, hi, h⟩ := Option.map_eq_some_iff.1 info5
  simp only [Prod.mk.injEq] at h
  exact ⟨i, hi, h.2.1⟩
/-- out[1:], out[4:] of a row of bytes. -/
theorem cut8 (A : Option Addr) (g p n c m : Nat) (hA : 0 < n → A = some ⟨g, p, none⟩) (hm : m ≤ n) (hc : n ≤ c) :
    ∃ A' : Option Addr, (∀ W : World, (Instr.slice 23 (.slice A n c) (some (.int .i64 (m : Int))) none none).run Tryz.prog W = .ok (.slice A' (n - m) (c - m)) W) ∧ (0 < n - m → A' = some ⟨g, p + m, none⟩) := by
  obtain ⟨i, hi, hs⟩ := info5p
  exact cutA 23 5 .i64 Tryz.underlying23 hi hs A g p n c m hA hm hc
set_option maxRecDepth 100000 in
set_option maxHeartbeats 8000000 in
theorem packBits (us : List Int) (f : Nat → Bool) (g o n c : Nat) (T : TypeId) (rest : List Value) (bs : List Int) (w : World) (hu : us.length = 32) (hf : ∀ i, i < 32 → us.getD i 0 = b2i (f i)) (hw : W8 w g T rest bs) (hb : Bytes bs) (hn : o + n ≤ bs.length) (h4 : 4 ≤ n) (hc : n ≤ c) :
    Calls Tryz.prog 91 #[.agg (us.map (Value.int .u32)).toArray, .slice (some ⟨g, o, none⟩) n c] w (Put w g T rest bs (8 * o) 32 f) := by
  have HU := Aside0.mk hu
  have HF := Aside0.mk hf
  have HW0 := Aside0.mk hw
  have HB0 := Aside0.mk hb
  have hgl : g < w.heap.size := block_lt hw
  clear hu hf hw hb
  go_enter Tryz.func91, Tryz.ntmps91
  go_wp2
  go_loopw [1, 4] (fun out i wr => ∃ (k : Nat) (A : Option Addr) (bs' : List Int), k ≤ 4 ∧ i = .int .i64 ((8 * k : Nat) : Int) ∧ out = .slice A (n - k) (c - k) ∧ Aside0 (0 < n - k → A = some ⟨g, o + k, none⟩) ∧ Aside0 (w.grownBy wr (some g)) ∧ Aside0 (W32 wr w.heap.size us) ∧ Aside0 (W8 wr g T rest bs') ∧ Aside0 (BitsAre bs bs' (8 * o) (8 * k) f)) (fun _ i _ => 32 - (intOf i).toNat)
  case atStart => exact ⟨0, some ⟨g, o, none⟩, bs, by omega, rfl, rfl, ⟨fun _ => rfl⟩, ⟨World.grownBy_alloc _ _ _⟩, ⟨heap_alloc_new _ _⟩, ⟨(Below.heap_alloc _ _ _ hgl).trans HW0.out⟩, ⟨BitsAre.none HB0.out _ _⟩⟩
  case round =>
    obtain ⟨k, A, bs', hk, rfl, rfl, HA, HG, HQ, HW, HT⟩ := hrel
    by_cases hlt : k < 4
    · obtain rfl := HA.out (by omega)
      have hbl : bs'.length = bs.length := HT.out.len
      have gs := HW.out.cell (o + k) (by omega)
      have zs := HW.out.frozen (o + k)
      have hv := fun j (hj : j < 32) => (HQ.out.cell j (by rw [HU.out]; exact hj)).trans (by rw [HF.out j hj])
      obtain ⟨v, hvv⟩ : ∃ v : Nat → Int, ∀ j, v j = b2i (f (8 * k + j)) := ⟨_, fun j => rfl⟩
      have c0 := hv (8 * k + 0) (by omega)
      have c1 := hv (8 * k + 1) (by omega)
      have c2 := hv (8 * k + 2) (by omega)
      have c3 := hv (8 * k + 3) (by omega)
      have c4 := hv (8 * k + 4) (by omega)
      have c5 := hv (8 * k + 5) (by omega)
      have c6 := hv (8 * k + 6) (by omega)
      have c7 := hv (8 * k + 7) (by omega)
      rw [← hvv] at c0 c1 c2 c3 c4 c5 c6 c7
      have HVV := Aside0.mk hvv
      have hv8 : ∀ j, 0 ≤ v j ∧ v j ≤ 1 := fun j => by rw [hvv]; exact b2i_range _
      have s1 : IntKind.u32.wrap (v 1 * 2) = v 1 * 2 := by have := hv8 1; rw [IntKind.wrap_u32]; omega
      have s2 : IntKind.u32.wrap (v 2 * 4) = v 2 * 4 := by have := hv8 2; rw [IntKind.wrap_u32]; omega
      have s3 : IntKind.u32.wrap (v 3 * 8) = v 3 * 8 := by have := hv8 3; rw [IntKind.wrap_u32]; omega
      have s4 : IntKind.u32.wrap (v 4 * 16) = v 4 * 16 := by have := hv8 4; rw [IntKind.wrap_u32]; omega
      have s5 : IntKind.u32.wrap (v 5 * 32) = v 5 * 32 := by have := hv8 5; rw [IntKind.wrap_u32]; omega
      have s6 : IntKind.u32.wrap (v 6 * 64) = v 6 * 64 := by have := hv8 6; rw [IntKind.wrap_u32]; omega
      have s7 : IntKind.u32.wrap (v 7 * 128) = v 7 * 128 := by have := hv8 7; rw [IntKind.wrap_u32]; omega
      obtain ⟨i, hi⟩ : ∃ i, 8 * k = i := ⟨_, rfl⟩
      have hi24 : (i : Int) ≤ 24 := by omega
      rw [hi] at c0 c1 c2 c3 c4 c5 c6 c7 ⊢
      rw [Nat.add_zero] at c0
      have HV8 := Aside0.mk hv8
      have HI := Aside0.mk hi
      obtain ⟨u0, hu0⟩ : ∃ u, v 0 = u := ⟨_, rfl⟩
      obtain ⟨u1, hu1⟩ : ∃ u, v 1 = u := ⟨_, rfl⟩
      obtain ⟨u2, hu2⟩ : ∃ u, v 2 = u := ⟨_, rfl⟩
      obtain ⟨u3, hu3⟩ : ∃ u, v 3 = u := ⟨_, rfl⟩
      obtain ⟨u4, hu4⟩ : ∃ u, v 4 = u := ⟨_, rfl⟩
      obtain ⟨u5, hu5⟩ : ∃ u, v 5 = u := ⟨_, rfl⟩
      obtain ⟨u6, hu6⟩ : ∃ u, v 6 = u := ⟨_, rfl⟩
      obtain ⟨u7, hu7⟩ : ∃ u, v 7 = u := ⟨_, rfl⟩
      rw [hu0] at c0
      rw [hu1] at c1 s1
      rw [hu2] at c2 s2
      rw [hu3] at c3 s3
      rw [hu4] at c4 s4
      rw [hu5] at c5 s5
      rw [hu6] at c6 s6
      rw [hu7] at c7 s7
      have HUU := Aside0.mk (And.intro hu0 (And.intro hu1 (And.intro hu2 (And.intro hu3 (And.intro hu4 (And.intro hu5 (And.intro hu6 hu7)))))))
      clear hv hvv hv8 hi hu0 hu1 hu2 hu3 hu4 hu5 hu6 hu7 HA
      obtain ⟨i1, hi1⟩ : ∃ x, i + 1 = x := ⟨_, rfl⟩
      have hl1 : (i1 : Int) < 32 := by omega
      have ew1 : IntKind.i64.wrap ((i : Int) + 1) = (i1 : Int) := by rw [IntKind.wrap_i64]; omega
      rw [hi1] at c1
      clear hi1
      obtain ⟨i2, hi2⟩ : ∃ x, i + 2 = x := ⟨_, rfl⟩
      have hl2 : (i2 : Int) < 32 := by omega
      have ew2 : IntKind.i64.wrap ((i : Int) + 2) = (i2 : Int) := by rw [IntKind.wrap_i64]; omega
      rw [hi2] at c2
      clear hi2
      obtain ⟨i3, hi3⟩ : ∃ x, i + 3 = x := ⟨_, rfl⟩
      have hl3 : (i3 : Int) < 32 := by omega
      have ew3 : IntKind.i64.wrap ((i : Int) + 3) = (i3 : Int) := by rw [IntKind.wrap_i64]; omega
      rw [hi3] at c3
      clear hi3
      obtain ⟨i4, hi4⟩ : ∃ x, i + 4 = x := ⟨_, rfl⟩
      have hl4 : (i4 : Int) < 32 := by omega
      have ew4 : IntKind.i64.wrap ((i : Int) + 4) = (i4 : Int) := by rw [IntKind.wrap_i64]; omega
      rw [hi4] at c4
      clear hi4
      obtain ⟨i5, hi5⟩ : ∃ x, i + 5 = x := ⟨_, rfl⟩
      have hl5 : (i5 : Int) < 32 := by omega
      have ew5 : IntKind.i64.wrap ((i : Int) + 5) = (i5 : Int) := by rw [IntKind.wrap_i64]; omega
      rw [hi5] at c5
      clear hi5
      obtain ⟨i6, hi6⟩ : ∃ x, i + 6 = x := ⟨_, rfl⟩
      have hl6 : (i6 : Int) < 32 := by omega
      have ew6 : IntKind.i64.wrap ((i : Int) + 6) = (i6 : Int) := by rw [IntKind.wrap_i64]; omega
      rw [hi6] at c6
      clear hi6
      obtain ⟨i7, hi7⟩ : ∃ x, i + 7 = x := ⟨_, rfl⟩
      have hl7 : (i7 : Int) < 32 := by omega
      have ew7 : IntKind.i64.wrap ((i : Int) + 7) = (i7 : Int) := by rw [IntKind.wrap_i64]; omega
      rw [hi7] at c7
      clear hi7
      have hl0 : (i : Int) < 32 := by omega
      obtain ⟨nk, hnk⟩ : ∃ x, n - k = x := ⟨_, rfl⟩
      obtain ⟨ck, hck⟩ : ∃ x, c - k = x := ⟨_, rfl⟩
      have hnk0 : 0 < nk := by omega
      have hnk1 : (0 : Int) < (nk : Int) := by omega
      rw [hnk, hck]
      have HNK := Aside0.mk (And.intro hnk hck)
      clear hnk hck
      go_wp2
      go_still_tail 48, (by kernel_rfl)
      go_wp2
      go_roundw
      case rel =>
        obtain ⟨rfl, rfl⟩ := HNK.out
        obtain ⟨rfl, rfl, rfl, rfl, rfl, rfl, rfl, rfl⟩ := HUU.out
        have hkb : o + k < bs'.length := by omega
        have hpk := pack_eq (f (8 * k + 0)) (f (8 * k + 1)) (f (8 * k + 2)) (f (8 * k + 3)) (f (8 * k + 4)) (f (8 * k + 5)) (f (8 * k + 6)) (f (8 * k + 7))
        have hpb := pack_bits (fun j => f (8 * k + j))
        simp only [← HVV.out] at hpk hpb
        have hsum := And.intro (HV8.out 0) (And.intro (HV8.out 1) (And.intro (HV8.out 2) (And.intro (HV8.out 3) (And.intro (HV8.out 4) (And.intro (HV8.out 5) (And.intro (HV8.out 6) (HV8.out 7)))))))
        have hbyte := BitsAre.byte HT.out.byt (o + k) (fun j => f (8 * k + j)) _ hkb (by omega) (by omega) hpb
        have hnext := HT.out.trans (k := 8) (g := fun j => f (8 * k + j)) (by rw [show 8 * o + 8 * k = 8 * (o + k) by omega]; exact hbyte) (fun _ _ => rfl)
        refine ⟨k + 1, _, _, by omega, ?_, by rw [show n - k - 1 = n - (k + 1) by omega, show c - k - 1 = c - (k + 1) by omega], ⟨fun h => ?_⟩, ⟨?_⟩, ⟨?_⟩, ⟨?_⟩, ⟨by rw [show 8 * (k + 1) = 8 * k + 8 by omega]; exact hnext⟩⟩
        · have hi := HI.out
          congr 1
          push_cast
          omega
        · rw [if_neg (by omega)]
          rfl
        · exact gb_drew (gb_set (p := ⟨g, o + k, none⟩) HG.out (.inl rfl) _)
        · exact (Below.heap_setCell wr ⟨g, o + k, none⟩ _ w.heap.size (by show w.heap.size ≠ g; omega)).trans HQ.out
        · rw [hpk, show (v 0 + 2 * v 1 + 4 * v 2 + 8 * v 3 + 16 * v 4 + 32 * v 5 + 64 * v 6 + 128 * v 7) % 256 = v 0 + 2 * v 1 + 4 * v 2 + 8 * v 3 + 16 * v 4 + 32 * v 5 + 64 * v 6 + 128 * v 7 by omega]
          exact HW.out.put (o + k) hkb _
      case measure => simp [intOf]; omega
    · obtain rfl : k = 4 := by omega
      go_wp2
      go_end0
      exact ⟨rfl, HG.out, bs', HW.out, HT.out⟩

end Go.Proofs.YtmdmpdbnnegpiaaGreatDoor.Cmp
