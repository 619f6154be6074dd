/- The law on what a map has at the numbers of a list (u8 to u8): its Go text returns true and writes nothing that was there. No condition. -/
import Derived.Test.YthbogaokmjjpkaaTrImplUint8Uint8
namespace Go.Proofs.Ythbogaokmjjpkaa.TrUint8Uint8
open Go.RowKit Go.Proofs.YthbogaokmjjpkaaW.PrintWords
set_option linter.unusedVariables false
set_option linter.unusedSimpArgs false

/-- The thin function's two ends, the result's block named. -/
def OkAt (w : World) (G n : Nat) (ys : List Int) (e : Ending) (w' : World) : Prop := e = .returned (.tuple #[.slice (some ⟨G, 0, none⟩) n n, .bool true]) ∧ w'.heap[G]? = some (.cells (nums .u8 ys).toArray 5 (0, 0)) ∧ Below w.heap.size w w'
theorem impl_at (A B : Option Addr) (n m c d G : Nat) (l p ys : List Int) (w : World) (hn : l.length = n) (hm : p.length = m) (hG : w.heap.size + 1 + 1 = G) (hys : l.map (tr p) = ys) (hl : ReadsInt w .u8 A n l) (hp : ReadsInt w .i32 B m p) (hnl : n ≤ 2147483647) (hnp : m ≤ 2147483647)
    (hA : 0 < n → ∀ ad, A = some ad → ad.block < w.heap.size) (hB : 0 < m → ∀ ad, B = some ad → ad.block < w.heap.size) (hall : l.all (inR p) = true) :
    Calls Try.prog 10 #[.slice A n c, .slice B m d] w (OkAt w G n ys) := by
  subst hn
  subst hm
  subst hG
  subst hys
  exact impl_ok A B c d l p w hl hp hnl hnp hA hB hall
theorem reads_lit {w : World} {g E : Nat} {k : IntKind} {xs : List Int} {n : Nat} (hn : xs.length = n) (h : w.heap[g]? = some (.cells (nums k xs).toArray E (0, 0))) (hb : n ≤ 1000) : ReadsInt w k (some ⟨g, 0, none⟩) n xs := by
  subst hn
  refine ⟨rfl, by omega, fun _ => ⟨_, rfl, fun j hj => ?_⟩⟩
  rw [add_plain, cell_of_row w g j _ E (0, 0) h]
  simp [nums, List.getD_eq_getElem?_getD, List.getElem?_eq_getElem hj]
theorem two_blocks (w : World) (o1 o2 : Obj) : ((w.alloc o1).alloc o2).heap[w.heap.size]? = some o1 ∧ ((w.alloc o1).alloc o2).heap[w.heap.size + 1]? = some o2 := by
  have h1 := heap_alloc_new w o1
  have h2 := heap_alloc_new (w.alloc o1) o2
  have e1 := Below.heap_alloc (w.alloc o1) o2 w.heap.size (by simp)
  exact ⟨e1.trans h1, by simpa using h2⟩
theorem cell_up {w w1 : World} {a : Addr} {v : Value} (h : Below w.heap.size w w1) (hc : w.cell? a = some v) : w1.cell? a = some v := pw_cell_below h hc
/-- The law's own first call, over lists of its own. -/
theorem first_call (w : World) :
    Calls Try.prog 10 #[.slice (some ⟨w.heap.size, 0, none⟩) 1 1, .slice (some ⟨w.heap.size + 1, 0, none⟩) 2 2] ((w.alloc (.cells #[.int .u8 1] 5)).alloc (.cells #[.int .i32 5, .int .i32 7] 21))
      (OkAt ((w.alloc (.cells #[.int .u8 1] 5)).alloc (.cells #[.int .i32 5, .int .i32 7] 21)) (w.heap.size + 4) 1 [7]) := by
  obtain ⟨h1, h2⟩ := two_blocks w (.cells #[.int .u8 1] 5) (.cells #[.int .i32 5, .int .i32 7] 21)
  exact impl_at _ _ 1 2 1 2 (w.heap.size + 4) [1] [5, 7] [7] _ rfl rfl (by simp) rfl (reads_lit rfl h1 (by omega)) (reads_lit rfl h2 (by omega)) (by omega) (by omega) (fun _ ad h => by injection h with h; subst h; simp; omega) (fun _ ad h => by injection h with h; subst h; simp) rfl
/-- What is left of a world behind the first call. -/
structure Woke (w w1 : World) : Prop where
  cell : w1.cell? ⟨w.heap.size + 4, 0, none⟩ = some (.int .u8 7)
  below : Below w.heap.size w w1
theorem woke {w w1 : World} {o1 o2 : Obj} (hh : w1.heap[w.heap.size + 4]? = some (.cells (nums .u8 [7]).toArray 5 (0, 0))) (hb : Below ((w.alloc o1).alloc o2).heap.size ((w.alloc o1).alloc o2) w1) : Woke w w1 :=
  ⟨by rw [cell_of_row w1 _ 0 _ 5 (0, 0) hh]; rfl, (((Below.refl _ _).alloc (Nat.le_refl _) _).alloc (by simp) _).trans (hb.mono (by simp; omega))⟩
def Fine (w : World) (e : Ending) (w' : World) : Prop := e = .returned (.bool true) ∧ Below w.heap.size w w'

set_option maxRecDepth 100000 in
theorem law_big (A B : Option Addr) (c d : Nat) (l p : List Int) (w : World) (hbig : 2147483647 < l.length ∨ 2147483647 < p.length) :
    Calls Try.prog 5 #[.slice A l.length c, .slice B p.length d] w (Fine w) := by
  by_cases h1 : 2147483647 < l.length
  · clear hbig
    go_enter Try.func5, Try.ntmps5
    go_wp2_with fail
    go_ret
    exact ⟨rfl, Below.refl _ _⟩
  · have h2 : 2147483647 < p.length := by omega
    clear hbig
    go_enter Try.func5, Try.ntmps5
    go_wp2_with fail
    go_ret
    exact ⟨rfl, Below.refl _ _⟩
set_option maxRecDepth 100000 in
theorem law_mid (A B : Option Addr) (c d : Nat) (l p : List Int) (w : World) (h1 : l.length ≤ 2147483647) (h2 : p.length ≤ 2147483647) (hmid : 1000 < l.length ∨ 1000 < p.length) :
    Calls Try.prog 5 #[.slice A l.length c, .slice B p.length d] w (Fine w) := by
  by_cases h3 : 1000 < l.length
  · clear hmid
    go_enter Try.func5, Try.ntmps5
    go_wp2_with (go_at_call 10; refine (first_call w).mono ?_; rintro e w1 ⟨rfl, hh, hb⟩; obtain ⟨hc1, hb1⟩ := woke hh hb; clear hh hb)
    go_ret
    exact ⟨rfl, hb1⟩
  · have h4 : 1000 < p.length := by omega
    clear hmid
    go_enter Try.func5, Try.ntmps5
    go_wp2_with (go_at_call 10; refine (first_call w).mono ?_; rintro e w1 ⟨rfl, hh, hb⟩; obtain ⟨hc1, hb1⟩ := woke hh hb; clear hh hb)
    go_ret
    exact ⟨rfl, hb1⟩

theorem bounds_of {l : List Int} (h : ∀ x ∈ l, (Lit.int .u8 x).wf = true) (k : Nat) (hk : k < l.length) : 0 ≤ rd l (k : Int) ∧ rd l (k : Int) ≤ 255 := by
  rw [rd_get l k hk]
  have := h _ (List.getElem_mem hk)
  simp [Lit.wf, IntKind.min, IntKind.max, IntKind.bits, IntKind.signed] at this
  omega
theorem inR_yes {p : List Int} {x : Int} (h0 : 0 ≤ x) (h1 : x < (p.length : Int)) : inR p x = true := decide_eq_true ⟨h0, h1⟩
theorem inR_no {p : List Int} {x : Int} (h : ¬ (0 ≤ x ∧ x < (p.length : Int))) : inR p x = false := decide_eq_false h

theorem below_drewN {B : Nat} {a w : World} (h : Below B a w) (n : Nat) : Below B a (w.drewN n) := ⟨h.os, h.tape, h.output, h.size, h.block⟩
/-- An address that reads lies among the world's blocks. -/
theorem lt_of_reads {w : World} {k : IntKind} {A : Option Addr} {n : Nat} {xs : List Int} (h : ReadsInt w k A n xs) (hn : 0 < n) : ∀ ad, A = some ad → ad.block < w.heap.size := by
  obtain ⟨ad, e, hc⟩ := h.2.2 hn
  intro ad' e'
  obtain rfl : ad = ad' := Option.some.inj (e.symm.trans e')
  have h0 := World.block_lt_of_cell? w _ (hc 0 hn)
  have hb : (ad.add 0).block = ad.block := by unfold Addr.add; split <;> rfl
  rwa [hb] at h0
def OkSome (w : World) (n : Nat) (ys : List Int) (e : Ending) (w' : World) : Prop := ∃ G, e = .returned (.tuple #[.slice (some ⟨G, 0, none⟩) n n, .bool true]) ∧ w.heap.size ≤ G ∧ w'.heap[G]? = some (.cells (nums .u8 ys).toArray 5 (0, 0)) ∧ Below w.heap.size w w'
/-- The call under no word on where the slices lie: a slice of no length leads nowhere. -/
theorem ok_at (A B : Option Addr) (c d : Nat) (l p : List Int) (w : World) (hl : ReadsInt w .u8 A l.length l) (hp : ReadsInt w .i32 B p.length p) (hnl : l.length ≤ 2147483647) (hnp : p.length ≤ 2147483647) (hall : l.all (inR p) = true) :
    Calls Try.prog 10 #[.slice A l.length c, .slice B p.length d] w (OkSome w l.length (l.map (tr p))) := by
  refine (impl_ok A B c d l p w hl hp hnl hnp (lt_of_reads hl) (lt_of_reads hp) hall).mono ?_
  rintro e w' ⟨h1, h2, h3⟩
  exact ⟨_, h1, by omega, h2, h3⟩
theorem bad_at (A B : Option Addr) (c d : Nat) (l p : List Int) (w : World) (hl : ReadsInt w .u8 A l.length l) (hp : ReadsInt w .i32 B p.length p) (hnl : l.length ≤ 2147483647) (hnp : p.length ≤ 2147483647) (hall : l.all (inR p) = false) :
    Calls Try.prog 10 #[.slice A l.length c, .slice B p.length d] w (BadPost w) :=
  impl_bad A B c d l p w hl hp hnl hnp (lt_of_reads hl) (lt_of_reads hp) hall

set_option maxRecDepth 100000 in
set_option maxHeartbeats 4000000 in
theorem law_main (A B : Option Addr) (c d : Nat) (l p : List Int) (w : World) (hl : ReadsInt w .u8 A l.length l) (hp : ReadsInt w .i32 B p.length p) (h1 : l.length ≤ 1000) (h2 : p.length ≤ 1000)
    (hwf : ∀ x ∈ l, (Lit.int .u8 x).wf = true) :
    Calls Try.prog 5 #[.slice A l.length c, .slice B p.length d] w (Fine w) := by
  have HL := Aside0.mk hl
  have HP := Aside0.mk hp
  have HWF := Aside0.mk hwf
  clear hl hp hwf
  go_enter Try.func5, Try.ntmps5
  go_wp2_with (go_at_call 10; refine (first_call w).mono ?_; rintro e w1 ⟨rfl, hh, hb⟩; obtain ⟨hc1, hb1⟩ := woke hh hb; clear hh hb)
  go_loopw [52, 8, 9] (fun i t v wr => ∃ (k : Nat) (b : Bool) (wl : List Int), k ≤ l.length ∧ i = .int .i64 k ∧ t = .bool b ∧ wl.length ≤ k ∧ Aside0 ((l.take k).all (inR p) = b) ∧ Aside0 (b = true → wl = (l.take k).map (tr p)) ∧ Aside0 (wr.ownsRow w.heap.size 5 1 v wl.length (nums .u8 wl)) ∧ Aside0 (Below w.heap.size w wr)) (fun i _ _ _ => l.length - (intOf i).toNat)
  case atStart => exact ⟨0, true, [], Nat.zero_le _, rfl, rfl, Nat.le_refl _, ⟨by simp⟩, ⟨fun _ => by simp⟩, ⟨own_nil _ _ _ _⟩, ⟨hb1⟩⟩
  case round =>
    obtain ⟨k, b, wl, hk, rfl, rfl, hwl, HI, HT, HO, HB⟩ := hrel
    by_cases hlt : k < l.length
    · obtain ⟨ad, ea, hca⟩ := (HL.out.at_ (k : Int) (by omega) (by omega))
      subst ea
      rw [Int.toNat_natCast] at hca
      replace hca := cell_up HB.out hca
      obtain ⟨hx0, hx1⟩ := bounds_of HWF.out k hlt
      cases b with
      | false =>
        have HN := Aside0.mk (show (l.take (k + 1)).all (inR p) = false by rw [all_take_succ l p k hlt, HI.out]; rfl)
        go_wp2_with fail
        go_roundw
        case rel => exact ⟨k + 1, false, wl, by omega, by go_num, rfl, by omega, HN, ⟨fun h => by cases h⟩, HO, HB⟩
        case measure => simp [intOf]; omega
      | true =>
        by_cases hx2 : 0 ≤ rd l (k : Int)
        · by_cases hx3 : rd l (k : Int) < (p.length : Int)
          · have HN := Aside0.mk (show (l.take (k + 1)).all (inR p) = true by rw [all_take_succ l p k hlt, HI.out, inR_yes hx2 hx3]; rfl)
            have HT2 := Aside0.mk (show wl ++ [tr p (rd l (k : Int))] = (l.take (k + 1)).map (tr p) by rw [HT.out rfl, List.take_succ_eq_append_getElem hlt, List.map_append, rd_get l k hlt]; rfl)
            obtain ⟨bd, eb, hcb⟩ := (HP.out.at_ (rd l (k : Int)) hx2 hx3)
            subst eb
            replace hcb := cell_up HB.out hcb
            go_wp2_with (at_builtin; refine print_append_num (w0 := w) w.heap.size rfl (.tmp 70) (.tmp 76) 33 5 .u8 1 rfl Try.underlying33 (by kernel_rfl) (by omega) _ wl _ rfl rfl HO.out HB.out HB.out.size (by omega) ?_; intro v1 w2 ho hb2 _ _; have HO2 := Aside0.mk ho; have HB2 := Aside0.mk hb2; clear ho hb2 HO HB)
            go_roundw
            case rel => exact ⟨k + 1, true, _, by omega, by go_num, rfl, by simp; omega, HN, ⟨fun _ => HT2.out⟩, HO2, HB2⟩
            case measure => simp [intOf]; omega
          · have HN := Aside0.mk (show (l.take (k + 1)).all (inR p) = false by rw [all_take_succ l p k hlt, inR_no (by omega)]; simp)
            go_wp2_with fail
            go_roundw
            case rel => exact ⟨k + 1, false, wl, by omega, by go_num, rfl, by omega, HN, ⟨fun h => by cases h⟩, HO, HB⟩
            case measure => simp [intOf]; omega
        · try (exfalso; omega)
          all_goals
            have HN := Aside0.mk (show (l.take (k + 1)).all (inR p) = false by rw [all_take_succ l p k hlt, inR_no (by omega)]; simp)
            go_wp2_with fail
            go_roundw
            case rel => exact ⟨k + 1, false, wl, by omega, by go_num, rfl, by omega, HN, ⟨fun h => by cases h⟩, HO, HB⟩
            case measure => simp [intOf]; omega
    · have hke : k = l.length := by omega
      subst hke
      have HI2 := Aside0.mk (show l.all (inR p) = b by have := HI.out; rwa [List.take_length] at this)
      have HL2 := Aside0.mk (HL.out.below HB.out)
      have HP2 := Aside0.mk (HP.out.below HB.out)
      cases b with
      | false =>
        go_wp2_with (go_at_call 10; refine (bad_at A B c d l p _ HL2.out HP2.out (by omega) (by omega) HI2.out).mono ?_; rintro e w3 ⟨rfl, hb3⟩)
        go_ret
        exact ⟨rfl, HB.out.trans (hb3.mono HB.out.size)⟩
      | true =>
        have HT2 := Aside0.mk (show wl = l.map (tr p) by have := HT.out rfl; rwa [List.take_length] at this)
        obtain ⟨A9, c9, hv, HR9⟩ := own_reads HO.out
        subst hv
        have hwn : wl.length = l.length := by rw [HT2.out]; simp
        have HR8 := Aside0.mk HR9
        clear HR9
        have HWN := Aside0.mk hwn
        rw [hwn]
        clear hwn hwl
        go_wp2_with (go_at_call 10; refine (ok_at A B c d l p _ HL2.out HP2.out (by omega) (by omega) HI2.out).mono ?_; rintro e w3 ⟨G, rfl, hG, hh3, hb3⟩; have HH3 := Aside0.mk hh3; have HB3 := Aside0.mk hb3; clear hh3 hb3)
        go_loopw [103] (fun i W => ∃ k : Nat, k ≤ l.length ∧ i = .int .i64 k ∧ Aside0 (∃ m, W = w3.drewN m)) (fun i _ => l.length - (intOf i).toNat)
        case atStart => exact ⟨0, Nat.zero_le _, rfl, ⟨0, rfl⟩⟩
        case round =>
          obtain ⟨k, hk, rfl, ⟨m, rfl⟩⟩ := hrel
          by_cases hlt : k < l.length
          · obtain ⟨ad, ea, hca⟩ := ((HR8.out.below HB3.out).at_ (k : Int) (by omega) (by rw [HWN.out]; omega))
            subst ea
            rw [Int.toNat_natCast, HT2.out] at hca
            obtain ⟨hcg, _⟩ := block_cell HH3.out (k := k) (by simpa using hlt)
            have hki : (k : Int) < (l.length : Int) := by omega
            have hk0 : (0 : Int) ≤ (k : Int) := by omega
            go_wp2_with fail
            go_quiet (fail)
            go_wp2_with fail
            go_roundw
            case rel => exact ⟨k + 1, by omega, by go_num, ⟨_, rfl⟩⟩
            case measure => simp [intOf]; omega
          · go_wp2_with fail
            go_ret
            exact ⟨rfl, below_drewN (HB.out.trans (HB3.out.mono HB.out.size)) m⟩

theorem law_any (A B : Option Addr) (c d : Nat) (l p : List Int) (w : World) (hl : ReadsInt w .u8 A l.length l) (hp : ReadsInt w .i32 B p.length p) (hwf : ∀ x ∈ l, (Lit.int .u8 x).wf = true) :
    Calls Try.prog 5 #[.slice A l.length c, .slice B p.length d] w (Fine w) := by
  by_cases h1 : 2147483647 < l.length ∨ 2147483647 < p.length
  · exact law_big A B c d l p w h1
  · by_cases h2 : 1000 < l.length ∨ 1000 < p.length
    · exact law_mid A B c d l p w (by omega) (by omega) h2
    · exact law_main A B c d l p w hl hp (by omega) (by omega) hwf
/-- THE WALK, as the row asks it. -/
theorem walk (a0 : Option Addr) (len0 cap0 : Nat) (z0 : List Int) (a1 : Option Addr) (len1 cap1 : Nat) (z1 : List Int) (w : World)
    (w0 : (a0 = none ∧ len0 = 0 ∧ cap0 = 0 ∧ z0 = []) ∨ ∃ x, a0 = some x ∧ len0 ≤ cap0 ∧ cap0 ≤ maxLen ∧ z0.length = cap0 ∧ (∀ i, i < z0.length → w.cell? (x.add i) = some (.int .u8 (z0.getD i 0))) ∧ ∀ n ∈ z0, (Lit.int .u8 n).wf = true)
    (w1 : (a1 = none ∧ len1 = 0 ∧ cap1 = 0 ∧ z1 = []) ∨ ∃ x, a1 = some x ∧ len1 ≤ cap1 ∧ cap1 ≤ maxLen ∧ z1.length = cap1 ∧ (∀ i, i < z1.length → w.cell? (x.add i) = some (.int .i32 (z1.getD i 0))) ∧ ∀ n ∈ z1, (Lit.int .i32 n).wf = true) :
    Calls Try.prog 5 #[.slice a0 len0 cap0, .slice a1 len1 cap1] w fun e w' => e = .returned (.bool true) ∧ Below w.heap.size w w' := by
  obtain ⟨l0, rfl, hr0, _, hw0, _⟩ := ReadsInt.ofRowC w0
  obtain ⟨l1, rfl, hr1, _, _, _⟩ := ReadsInt.ofRowC w1
  exact law_any a0 a1 cap0 cap1 l0 l1 w hr0 hr1 hw0

end Go.Proofs.Ythbogaokmjjpkaa.TrUint8Uint8
