/- The decoder of texts of one length: what it reads and what it leaves out. -/
import Derived.Test.YtbghkoalmjfpiaaR4F
namespace Go.Proofs.Ytbghkoalmjfpiaa.Plain
open Go.RowKit Go.Proofs.YtbghkoalmjfpiaaW.PrintWords Go.Proofs.YtbghkoalmjfpiaaW.PrintLast Go.Proofs.YtbghkoalmjfpiaaW.PrintMore Go.Proofs.Ytbghkoalmjfpiaa.PBatchedValues
set_option linter.unusedVariables false
set_option linter.unusedSimpArgs false

def mkF (wd : Int) (nv : Nat) (s : Value) : Array Value := #[.int .i64 nv, s, .int .i64 wd]
def encF (v : V) : List Int := bytesOf v.txt
/-- All values have texts of one length. -/
def LenF (wd : Nat) (l : List V) : Prop := ∀ v ∈ l, (encF v).length = wd
theorem flatF_len (wd : Nat) : ∀ l : List V, LenF wd l → (l.flatMap encF).length = l.length * wd
  | [], _ => by simp
  | v :: l, h => by
    rw [List.flatMap_cons, List.length_append, h v (by simp), flatF_len wd l (fun u hu => h u (by simp [hu])), List.length_cons, Nat.add_mul]
    omega
/-- The first value's bytes, and what is left behind it. -/
theorem drop_cons {l : List V} {k : Nat} (h : k < l.length) : l.drop k = gv l k :: l.drop (k + 1) := by
  rw [List.drop_eq_getElem_cons h, gv_get l k h]
theorem flat_take0 (enc : V → List Int) (l : List V) (k : Nat) (h : k < l.length) : ((l.drop k).flatMap enc).take (enc (gv l k)).length = enc (gv l k) := by
  rw [drop_cons h, List.flatMap_cons, List.take_left]
theorem flat_drop0 (enc : V → List Int) (l : List V) (k : Nat) (h : k < l.length) : ((l.drop k).flatMap enc).drop (enc (gv l k)).length = (l.drop (k + 1)).flatMap enc := by
  rw [drop_cons h, List.flatMap_cons, List.drop_left]
theorem flat_len0 (enc : V → List Int) (l : List V) (k : Nat) (h : k < l.length) : ((l.drop k).flatMap enc).length = (enc (gv l k)).length + ((l.drop (k + 1)).flatMap enc).length := by
  rw [drop_cons h, List.flatMap_cons, List.length_append]
theorem mul_bounds {n m wd : Nat} (h : n ≤ m) (hm : m ≤ 500) (hw : wd ≤ 40) : n * wd ≤ 20000 ∧ n * wd ≤ m * wd := by
  have h1 := Nat.mul_le_mul (Nat.le_trans h hm) hw
  exact ⟨by omega, Nat.mul_le_mul_right _ h⟩
/-- The cells of the decoder's block. -/
theorem DB.cells {T : TypeId} {wd : Int} {W wr : World} {g nv : Nat} {bs : List Int} {A : Option Addr} {c : Nat} (h : DB T (mkF wd) W g wr nv bs A c) :
    wr.cell? ⟨g, 0, none⟩ = some (.int .i64 nv) ∧ wr.cell? ⟨g, 1, none⟩ = some (.slice A bs.length c) ∧ wr.cell? ⟨g, 2, none⟩ = some (.int .i64 wd) ∧ (∀ i, wr.frozen? ⟨g, i, none⟩ = false) :=
  ⟨blk_cell h.blk 0, blk_cell h.blk 1, blk_cell h.blk 2, blk_frozen h.blk⟩
theorem info5p : ∃ i, Try.prog.info? 5 = some i ∧ i.size = 1 := by
  obtain ⟨i, h, _, h2, _⟩ := info_parts info5
  exact ⟨i, h, h2⟩
/-- s[k:] of the bytes that are left. -/
theorem RdD.cut {W : World} {g : Nat} {A : Option Addr} {xs : List Int} (h : RdD W g A xs) (c j : Nat) (hj : j ≤ xs.length) (hc : xs.length ≤ c) :
    ∃ A', (∀ W : World, (Instr.slice 26 (.slice A xs.length c) (some (.int .i64 (j : Int))) none none).run Try.prog W = .ok (.slice A' (xs.drop j).length (c - j)) W) ∧ RdD W g A' (xs.drop j) ∧ (xs.drop j).length ≤ c - j := by
  obtain ⟨i, hi, hs⟩ := info5p
  obtain ⟨A', h1, h2, h3⟩ := print_drop_of (P := Try.prog) (Value.int .u8) 0 26 5 .i64 Try.underlying26 hi hs A c xs (j : Int) (by omega) (by omega) hc
  simp only [Int.toNat_natCast] at h1 h2 h3
  exact ⟨A', h1, fun wr hg => h2 wr (h wr hg), h3⟩
/-- s[:k] likewise. -/
theorem RdD.head {W : World} {g : Nat} {A : Option Addr} {xs : List Int} (h : RdD W g A xs) (c j : Nat) (hj : j ≤ xs.length) (hc : xs.length ≤ c) :
    (∀ W : World, (Instr.slice 26 (.slice A xs.length c) none (some (.int .i64 (j : Int))) none).run Try.prog W = .ok (.slice A (xs.take j).length c) W) ∧ RdD W g A (xs.take j) := by
  obtain ⟨i, hi, hs⟩ := info5p
  obtain ⟨h1, h2, _⟩ := print_take_of (P := Try.prog) (Value.int .u8) 0 26 5 .i64 Try.underlying26 hi hs A c xs (j : Int) (by omega) (by omega) hc
  simp only [Int.toNat_natCast] at h1 h2
  exact ⟨h1, fun wr hg => h2 wr (h wr hg)⟩
/-- What stands of a call: k values read or left out, so many bytes ahead cut off. -/
def Went (T : TypeId) (mk : Nat → Value → Array Value) (W : World) (g nv k : Nat) (bs : List Int) (w : World) (e : Ending) (w' : World) : Prop :=
  e = .returned (.tuple #[.int .i64 k, .nilIface]) ∧ w.grownBy w' (some g) ∧ ∃ A c, DB T mk W g w' (nv - k) bs A c
set_option maxRecDepth 100000 in
set_option maxHeartbeats 4000000 in
theorem discardF0 (wd k p g c nv : Nat) (A : Option Addr) (bs : List Int) (W w : World) (hk : k ≤ nv) (hn : nv ≤ 500) (hp : k * wd = p) (hpb : p ≤ bs.length) (hps : p ≤ 1000000) (h : DB 53 (mkF wd) W g w nv bs A c) :
    Calls Try.prog 29 #[.pointer (some ⟨g, 0, none⟩), .int .i64 k] w (Went 53 (mkF wd) W g nv k (bs.drop p) w) := by
  obtain ⟨f0, f1, f2, fz⟩ := h.cells
  obtain ⟨A', hcut, hrd, hle⟩ := h.rd.cut c p hpb h.le
  have hm : (k : Int) * (wd : Int) = (p : Int) := by rw [← hp, Int.natCast_mul]
  have HH := Aside0.mk h
  have HRD := Aside0.mk hrd
  have HLE := Aside0.mk hle
  clear h hrd hle hp
  go_enter Try.func29, Try.ntmps29
  go_wp2
  go_ret2
  refine ⟨rfl, gb_set (p := ⟨g, 0, none⟩) (gb_set (p := ⟨g, 1, none⟩) (World.grownBy.refl _ _) (.inl rfl) _) (.inl rfl) _, A', c - p, gb_set (gb_set HH.out.grown (.inl rfl) _) (.inl rfl) _, HH.out.lt, ?_, HRD.out, HLE.out, by have := HH.out.small; rw [List.length_drop]; omega⟩
  have h2 := blk_set (blk_set HH.out.blk 1 (.slice A' (bs.drop p).length (c - p))) 0 (.int .i64 ((nv - k : Nat) : Int))
  have e : ((nv - k : Nat) : Int) = (nv : Int) - k := by omega
  simp only [e] at h2 ⊢
  first | exact h2 | simpa [mkF, e] using h2
def encS (s : Slc) : Value := .slice s.1 s.2.1 s.2.2
/-- What stands of a reading: n values read into a new block. -/
def Red {α : Type} (T E : TypeId) (mk : Nat → Value → Array Value) (enc : V → List Int) (encE : α → Value) (Rel : α → V → Prop) (W : World) (g : Nat) (Wa : World) (rem : List V) (n : Nat) (e : Ending) (w' : World) : Prop :=
  e = .returned (.tuple #[.int .i64 n, .nilIface]) ∧ Wa.grownBy w' (some g) ∧ (∃ A c, DB T mk W g w' (rem.length - n) ((rem.drop n).flatMap enc) A c) ∧
    ∃ xs, xs.length = n ∧ w'.heap[Wa.heap.size]? = some (.cells (xs.map encE).toArray E (0, 0)) ∧ All2 Rel xs (rem.take n)
theorem fill_cell {α : Type} (f : α → Value) (xs : List α) (z : α) (n : Nat) (h : xs.length < n) : (((fill xs z n).map f).toArray)[xs.length]? = some (f z) := by
  simp [fill_get xs z n h]
theorem fill_put {α : Type} (f : α → Value) (xs : List α) (z x : α) (n : Nat) (h : xs.length < n) : (((fill xs z n).map f).toArray).setIfInBounds xs.length (f x) = ((fill (xs ++ [x]) z n).map f).toArray := by
  rw [← fill_set xs z x n h]
  simp [List.map_set]
theorem made_fill {α : Type} (f : α → Value) (z : α) (n : Nat) : madeCells #[f z] n = ((fill [] z n).map f).toArray := by
  apply Array.toList_inj.1
  apply List.ext_getElem
  · simp [fill, madeCells]
  · intro i h1 h2
    simp [fill, madeCells, Nat.mod_one]
set_option maxRecDepth 100000 in
set_option maxHeartbeats 4000000 in
theorem decodeF (wd n g c : Nat) (A : Option Addr) (rem : List V) (W Wa : World) (hn : n ≤ rem.length) (hr : rem.length ≤ 500) (hw0 : 1 ≤ wd) (hw : wd ≤ 40) (hL : LenF wd rem) (h : DB 53 (mkF wd) W g Wa rem.length (rem.flatMap encF) A c) :
    Calls Try.prog 28 #[.pointer (some ⟨g, 0, none⟩), .slice (some ⟨Wa.heap.size, 0, none⟩) n n] (Wa.alloc (.cells (madeCells #[.slice none 0 0] n) 58)) (Red 53 58 (mkF wd) encF encS (RelT W g) W g Wa rem n) := by
  have hb := flatF_len wd rem hL
  obtain ⟨b1, b2⟩ := mul_bounds hn hr hw
  obtain ⟨p, hp⟩ : ∃ p, n * wd = p := ⟨_, rfl⟩
  obtain ⟨bl, hbl⟩ : ∃ bl, (rem.flatMap encF).length = bl := ⟨_, rfl⟩
  have hm : (n : Int) * (wd : Int) = (p : Int) := by rw [← hp, Int.natCast_mul]
  have hpb : p ≤ bl := by rw [← hbl, hb, ← hp]; exact b2
  have hps : p ≤ 20000 := by rw [← hp]; exact b1
  obtain ⟨f0, f1, f2, fz⟩ := h.cells
  rw [hbl] at f1
  have hd1 : decide ((2147483647 : Int) < (p : Int)) = false := decide_eq_false (by omega)
  have hd2 : decide (bl < p) = false := decide_eq_false (by omega)
  have hqg : Wa.heap.size ≠ g := by have := h.lt; have := h.grown.size; omega
  have hgq : g ≠ Wa.heap.size := fun e => hqg e.symm
  have hglt : g < Wa.heap.size := by have := h.lt; have := h.grown.size; omega
  have HH := Aside0.mk h
  have HL := Aside0.mk hL
  clear h hL hb hbl hp b1 b2
  go_enter Try.func28, Try.ntmps28
  go_wp2_with (go_at_call 73; (with_reducible refine (min_left _ _ _ (by omega)).mono ?_); rintro e w1 ⟨rfl, rfl⟩)
  have hqf : madeCells #[Value.slice none 0 0] n = ((fill [] s0 n).map encS).toArray := made_fill encS s0 n
  go_loopw [41] (fun i wr => ∃ (k : Nat) (A : Option Addr) (c : Nat) (ss : List Slc), k ≤ n ∧ i = .int .i64 k ∧ ss.length = k ∧ Aside0 (DB 53 (mkF wd) W g wr rem.length ((rem.drop k).flatMap encF) A c) ∧ Aside0 (Wa.grownBy wr (some g)) ∧ Aside0 (wr.heap[Wa.heap.size]? = some (.cells ((fill ss s0 n).map encS).toArray 58 (0, 0))) ∧ Aside0 (All2 (RelT W g) ss (rem.take k))) (fun i _ => n - (intOf i).toNat)
  case atStart => exact ⟨0, A, c, [], Nat.zero_le _, rfl, rfl, ⟨⟨HH.out.grown.trans (World.grownBy_alloc _ _ _), HH.out.lt, (Below.heap_alloc _ _ _ hglt).trans (by simpa using HH.out.blk), by simpa using HH.out.rd, by simpa using HH.out.le, by simpa using HH.out.small⟩⟩, ⟨World.grownBy_alloc _ _ _⟩, ⟨by rw [← hqf]; exact heap_alloc_new _ _⟩, ⟨by simpa using All2.nil⟩⟩
  case round =>
    clear f0 f1 f2 fz hqf
    obtain ⟨k, A1, c1, ss, hk, rfl, hss, HD, HG, HQ, HA⟩ := hrel
    by_cases hlt : k < n
    · have hkr : k < rem.length := by omega
      obtain ⟨f0, f1, f2, fz⟩ := HD.out.cells
      have hv : (encF (gv rem k)).length = wd := HL.out _ (gv_mem hkr)
      have hl0 := flat_len0 encF rem k hkr
      have hcb : ((rem.drop k).flatMap encF).length ≤ c1 := HD.out.le
      obtain ⟨hhead, hrd1⟩ := HD.out.rd.head c1 wd (by omega) hcb
      obtain ⟨A2, hcut, hrd2, hle2⟩ := HD.out.rd.cut c1 wd (by omega) hcb
      have t0 := flat_take0 encF rem k hkr
      have t1 := flat_drop0 encF rem k hkr
      rw [hv] at t0 t1
      rw [t0] at hhead hrd1
      rw [t1] at hcut hrd2 hle2
      rw [hv] at hhead
      have HR1 := Aside0.mk hrd1
      have HR2 := Aside0.mk hrd2
      have HL2 := Aside0.mk hle2
      have HV := Aside0.mk hv
      obtain ⟨bl, hbl⟩ : ∃ bl, ((rem.drop k).flatMap encF).length = bl := ⟨_, rfl⟩
      obtain ⟨bm, hbm⟩ : ∃ bm, ((rem.drop (k + 1)).flatMap encF).length = bm := ⟨_, rfl⟩
      rw [hbl] at f1 hhead hcut hcb hl0
      rw [hbm] at hcut hl0
      have HBM := Aside0.mk hbm
      have HLB2 := Aside0.mk hbl.symm
      have hq0 : wr.cell? ⟨Wa.heap.size, k, none⟩ = some (.slice none 0 0) := by rw [blk_cell HQ.out k, ← hss]; exact fill_cell encS ss s0 n (by omega)
      have hqz : wr.frozen? ⟨Wa.heap.size, k, none⟩ = false := blk_frozen HQ.out k
      have hwb : wd ≤ bl := by omega
      have hwc : wd ≤ c1 := by omega
      have HLB := Aside0.mk hl0
      clear hrd1 hrd2 hle2 t0 t1 hbl hbm hv hl0 hcb
      go_wp2
      go_still_tail 14, (by kernel_rfl)
      go_wp2
      generalize hw2 : (wr.setCell ⟨Wa.heap.size, k, none⟩ (.slice A1 wd c1)).drew = w2
      have HW2 := Aside0.mk hw2
      have hb2 : w2.heap[g]? = some (.cells (mkF wd rem.length (.slice A1 bl c1)) 53 (0, 0)) := by
        rw [← hw2, HLB2.out]
        exact (Below.heap_setCell wr ⟨Wa.heap.size, k, none⟩ (.slice A1 wd c1) g hgq).trans HD.out.blk
      have HB2 := Aside0.mk hb2
      have e1 : w2.cell? ⟨g, 1, none⟩ = some (.slice A1 bl c1) := blk_cell hb2 1
      have e2 : w2.cell? ⟨g, 2, none⟩ = some (.int .i64 wd) := blk_cell hb2 2
      have ez := blk_frozen hb2 1
      clear hb2 hw2 f0 f1 f2 fz hq0 hqz
      go_still_tail 15, (by kernel_rfl)
      go_wp2
      go_roundw
      case rel =>
        refine ⟨k + 1, A2, c1 - wd, ss ++ [(A1, wd, c1)], by omega, by go_num, by simp [hss], ⟨⟨?_, HD.out.lt, ?_, HR2.out, HL2.out, ?_⟩⟩, ⟨?_⟩, ⟨?_⟩, ⟨?_⟩⟩
        · exact gb_drew (gb_set (p := ⟨g, 1, none⟩) (by rw [← HW2.out]; exact gb_drew (gb_set (p := ⟨Wa.heap.size, k, none⟩) HD.out.grown (.inr HH.out.grown.size) _)) (.inl rfl) _)
        · rw [HBM.out]
          exact blk_set HB2.out 1 (.slice A2 bm (c1 - wd))
        · have h1 := HD.out.small
          have h2 := HLB2.out
          have h3 := HLB.out
          have h4 := HBM.out
          omega
        · exact gb_drew (gb_set (p := ⟨g, 1, none⟩) (by rw [← HW2.out]; exact gb_drew (gb_set (p := ⟨Wa.heap.size, k, none⟩) HG.out (.inr (Nat.le_refl _)) _)) (.inl rfl) _)
        · have h1 := blk_set HQ.out k (.slice A1 wd c1)
          have h2 := fill_put encS ss s0 (A1, wd, c1) n (by omega)
          rw [hss] at h2
          have h3 : w2.heap[Wa.heap.size]? = some (.cells ((fill (ss ++ [(A1, wd, c1)]) s0 n).map encS).toArray 58 (0, 0)) := by rw [← HW2.out, ← h2]; exact h1
          exact (Below.heap_setCell w2 ⟨g, 1, none⟩ _ Wa.heap.size hqg).trans h3
        · rw [take_snoc rem k hkr]
          exact HA.out.snoc ⟨HV.out.symm, HR1.out⟩
      case measure => simp [intOf]; omega
    · obtain rfl : k = n := by omega
      obtain ⟨f0, f1, f2, fz⟩ := HD.out.cells
      clear f1
      go_wp2
      go_ret2
      refine ⟨rfl, gb_set HG.out (.inl rfl) _, ⟨A1, c1, gb_set HD.out.grown (.inl rfl) _, HD.out.lt, ?_, HD.out.rd, HD.out.le, HD.out.small⟩, ss, hss, ?_, HA.out⟩
      · have h1 := blk_set HD.out.blk 0 (.int .i64 ((rem.length - k : Nat) : Int))
        have e : ((rem.length - k : Nat) : Int) = (rem.length : Int) - k := by omega
        rw [← e]
        exact h1
      · have h1 := (Below.heap_setCell wr ⟨g, 0, none⟩ (.int .i64 ((rem.length : Int) - k)) Wa.heap.size hqg).trans HQ.out
        rw [← hss] at h1 ⊢
        rw [fill_all] at h1
        exact h1
def RedErr (w : World) (e : Ending) (w' : World) : Prop := ∃ i t p, e = .returned (.tuple #[.int .i64 i, .iface t p]) ∧ Below w.heap.size w w'
set_option maxRecDepth 100000 in
set_option maxHeartbeats 4000000 in
theorem decF_err (wd n g c nv : Nat) (A : Option Addr) (bs : List Int) (q : Addr) (W w : World) (hn : n ≤ nv) (hr : nv ≤ 500) (hw : wd ≤ 40) (hs : bs.length < n * wd) (h : DB 53 (mkF wd) W g w nv bs A c) :
    Calls Try.prog 28 #[.pointer (some ⟨g, 0, none⟩), .slice (some q) n n] w (RedErr w) := by
  obtain ⟨b1, _⟩ := mul_bounds hn hr hw
  obtain ⟨p, hp⟩ : ∃ p, n * wd = p := ⟨_, rfl⟩
  rw [hp] at hs b1
  have hm : (n : Int) * (wd : Int) = (p : Int) := by rw [← hp, Int.natCast_mul]
  obtain ⟨f0, f1, f2, fz⟩ := h.cells
  clear h hp
  go_enter Try.func28, Try.ntmps28
  go_wp2_with (first | (go_at_call 73; (with_reducible refine (min_left _ _ _ (by omega)).mono ?_); rintro e w1 ⟨rfl, rfl⟩) | (go_at_call 74; (with_reducible refine (err_any _ _).mono ?_); rintro e w1 ⟨t, pv, rfl, hb⟩))
  go_ret2
  exact ⟨_, _, _, rfl, hb⟩
/-- What the laws ask of the values. -/
def OkF (wd : Nat) (l : List V) : Prop := 1 ≤ wd ∧ wd ≤ 40 ∧ l.length ≤ 500 ∧ LenF wd l
theorem OkF.drop {wd : Nat} {l : List V} (h : OkF wd l) (k : Nat) : OkF wd (l.drop k) := ⟨h.1, h.2.1, by have := h.2.2.1; rw [List.length_drop]; omega, fun v hv => h.2.2.2 v (List.mem_of_mem_drop hv)⟩
theorem disF (wd g c m : Nat) (A : Option Addr) (rem : List V) (W w : World) (hk : m ≤ rem.length) (ho : OkF wd rem) (h : DB 53 (mkF wd) W g w rem.length (rem.flatMap encF) A c) :
    Calls Try.prog 29 #[.pointer (some ⟨g, 0, none⟩), .int .i64 m] w (Went 53 (mkF wd) W g rem.length m ((rem.drop m).flatMap encF) w) := by
  obtain ⟨_, h2, h3, h4⟩ := ho
  have hb := flatF_len wd rem h4
  obtain ⟨b1, b2⟩ := mul_bounds hk h3 h2
  have ed : (rem.flatMap encF).drop (m * wd) = (rem.drop m).flatMap encF := by
    have e1 : rem.flatMap encF = (rem.take m).flatMap encF ++ (rem.drop m).flatMap encF := by rw [← List.flatMap_append, List.take_append_drop]
    have e2 : ((rem.take m).flatMap encF).length = m * wd := by rw [flatF_len wd _ (fun v hv => h4 v (List.mem_of_mem_take hv)), List.length_take, Nat.min_eq_left hk]
    rw [e1, ← e2, List.drop_left]
  rw [← ed]
  exact discardF0 wd m (m * wd) g c rem.length A _ W w hk h3 rfl (by rw [hb]; exact b2) (by omega) h
theorem decF (wd n g c : Nat) (A : Option Addr) (rem : List V) (W Wa : World) (hn : n ≤ rem.length) (ho : OkF wd rem) (h : DB 53 (mkF wd) W g Wa rem.length (rem.flatMap encF) A c) :
    Calls Try.prog 28 #[.pointer (some ⟨g, 0, none⟩), .slice (some ⟨Wa.heap.size, 0, none⟩) n n] (Wa.alloc (.cells (madeCells #[.slice none 0 0] n) 58)) (Red 53 58 (mkF wd) encF encS (RelT W g) W g Wa rem n) :=
  decodeF wd n g c A rem W Wa hn ho.2.2.1 ho.1 ho.2.1 ho.2.2.2 h

end Go.Proofs.Ytbghkoalmjfpiaa.Plain
