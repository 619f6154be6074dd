/- The decoder of texts behind their lengths: what it reads and what it leaves out. -/
import Derived.Test.YtbghkoalmjfpiaaR4U
import Derived.Test.YtbghkoalmjfpiaaR4I
namespace Go.Proofs.Ytbghkoalmjfpiaa.Plain
open Go.RowKit Go.Proofs.YtbghkoalmjfpiaaW.PrintWords Go.Proofs.YtbghkoalmjfpiaaW.PrintLast Go.Proofs.YtbghkoalmjfpiaaW.PrintMore Go.Proofs.Ytbghkoalmjfpiaa.PBatchedValues
set_option linter.unusedVariables false
set_option linter.unusedSimpArgs false

abbrev mkT (wd : Int) (nv : Nat) (s : Value) : Array Value := mkF wd nv s
def encT (v : V) : List Int := le (v.txt.size : Int) 4 ++ bytesOf v.txt
theorem encT_len (v : V) : (encT v).length = v.txt.size + 4 := by rw [encT, List.length_append, le_len, bytesOf_length]; omega
/-- What the laws ask of the values. -/
def OkT (wd : Nat) (l : List V) : Prop := wd = 0 ∧ True ∧ l.length ≤ 500 ∧ ∀ v ∈ l, v.txt.size ≤ 200
theorem OkT.drop {wd : Nat} {l : List V} (h : OkT wd l) (k : Nat) : OkT wd (l.drop k) := ⟨h.1, h.2.1, by have := h.2.2.1; rw [List.length_drop]; omega, fun v hv => h.2.2.2 v (List.mem_of_mem_drop hv)⟩
/-- The bytes ahead of a value: its length, its text, what is behind it. -/
theorem headT (v : V) (rest : List Int) : ((encT v ++ rest).take 4) = le (v.txt.size : Int) 4 ∧ (((encT v ++ rest).drop 4).take v.txt.size) = bytesOf v.txt ∧ (encT v ++ rest).drop (v.txt.size + 4) = rest ∧ (encT v ++ rest).length = v.txt.size + 4 + rest.length := by
  have h4 : (le (v.txt.size : Int) 4).length = 4 := le_len _ _
  have hb := bytesOf_length v.txt
  refine ⟨?_, ?_, ?_, by rw [List.length_append, encT_len]⟩
  · rw [encT, List.append_assoc, List.take_left' h4]
  · rw [encT, List.append_assoc, List.drop_left' h4, List.take_left' hb]
  · rw [List.drop_left' (encT_len v)]
theorem le_take (x : Int) : (le x 4).take 4 = le x 4 := List.take_of_length_le (by rw [le_len]; omega)
set_option maxRecDepth 100000 in
set_option maxHeartbeats 8000000 in
theorem discardT (wd n g c : Nat) (A : Option Addr) (rem : List V) (W w : World) (hn : n ≤ rem.length) (hr : rem.length ≤ 500) (hL : ∀ v ∈ rem, v.txt.size ≤ 200) (h : DB 71 (mkT wd) W g w rem.length (rem.flatMap encT) A c) :
    Calls Try.prog 39 #[.pointer (some ⟨g, 0, none⟩), .int .i64 n] w (Went 71 (mkT wd) W g rem.length n ((rem.drop n).flatMap encT) w) := by
  obtain ⟨f0, f1, f2, fz⟩ := h.cells
  obtain ⟨bl0, hbl0⟩ : ∃ bl, (rem.flatMap encT).length = bl := ⟨_, rfl⟩
  rw [hbl0] at f1
  have HH := Aside0.mk h
  have HL := Aside0.mk hL
  clear h hL hbl0
  go_enter Try.func39, Try.ntmps39
  go_wp2_with fail
  go_loopw [6] (fun i wr => ∃ (k : Nat) (A : Option Addr) (c : Nat), k ≤ n ∧ i = .int .i64 k ∧ Aside0 (DB 71 (mkT wd) W g wr rem.length ((rem.drop k).flatMap encT ++ []) A c) ∧ Aside0 (w.grownBy wr (some g))) (fun i _ => n - (intOf i).toNat)
  case atStart => exact ⟨0, A, c, Nat.zero_le _, rfl, ⟨by simpa using HH.out⟩, ⟨World.grownBy.refl _ _⟩⟩
  case round =>
    clear f0 f1 f2 fz
    obtain ⟨k, A1, c1, hk, rfl, HD, HG⟩ := hrel
    by_cases hlt : k < n
    · have hkr : k < rem.length := by omega
      obtain ⟨f0, f1, f2, fz⟩ := HD.out.cells
      have hsz : (gv rem k).txt.size ≤ 200 := HL.out _ (gv_mem hkr)
      obtain ⟨t1, t2, t3, t4⟩ := headT (gv rem k) ((rem.drop (k + 1)).flatMap encT ++ [])
      have hdc : (rem.drop k).flatMap encT ++ [] = encT (gv rem k) ++ ((rem.drop (k + 1)).flatMap encT ++ []) := by rw [drop_cons hkr, List.flatMap_cons, List.append_assoc]
      rw [← hdc] at t1 t2 t3 t4
      have hcb : ((rem.drop k).flatMap encT ++ []).length ≤ c1 := HD.out.le
      obtain ⟨hhead, hrd1⟩ := HD.out.rd.head c1 4 (by omega) hcb
      obtain ⟨AM, hmid, hrd3⟩ := HD.out.rd.mid c1 (gv rem k).txt.size (by omega) hcb
      obtain ⟨A2, hcut, hrd2, hle2⟩ := HD.out.rd.cutK .i32 c1 ((gv rem k).txt.size + 4) (by omega) hcb
      rw [t1] at hhead hrd1
      rw [t2] at hrd3
      rw [t3] at hcut hrd2 hle2
      rw [le_len] at hhead
      have HR1 := Aside0.mk hrd1
      have HR2 := Aside0.mk hrd2
      have HR3 := Aside0.mk hrd3
      have HL2 := Aside0.mk hle2
      have HDC := Aside0.mk hdc
      obtain ⟨sz, hszz⟩ : ∃ sz, (gv rem k).txt.size = sz := ⟨_, rfl⟩
      obtain ⟨bl, hbl⟩ : ∃ bl, ((rem.drop k).flatMap encT ++ []).length = bl := ⟨_, rfl⟩
      obtain ⟨bm, hbm⟩ : ∃ bm, ((rem.drop (k + 1)).flatMap encT ++ []).length = bm := ⟨_, rfl⟩
      rw [hszz] at hsz t4 hmid hcut HR1 HL2
      rw [hbl] at f1 hhead hcut hmid hcb t4
      rw [hbm] at hcut t4
      have HBM := Aside0.mk hbm
      have HBL := Aside0.mk hbl
      have HT4 := Aside0.mk t4
      have HSZ := Aside0.mk hszz
      have h4b : 4 ≤ bl := by omega
      have h4c : 4 ≤ c1 := by omega
      have hsb : sz + 4 ≤ bl := by omega
      have hsc : sz + 4 ≤ c1 := by omega
      have e32 : ((sz : Int) + 4) = ((sz + 4 : Nat) : Int) := by omega
      have HE32 := Aside0.mk e32
      have hs32 : (sz : Int) + 4 ≤ 204 := by omega
      have hlb : decide (bl < 4) = false := decide_eq_false (by omega)
      have HHEAD := Aside0.mk hhead
      rw [← e32] at hcut hmid
      rw [show ((4 : Nat) : Int) = 4 from rfl] at hhead
      have hw32 : IntKind.i32.wrap (sz : Int) = (sz : Int) := by rw [IntKind.wrap_i32]; omega
      have hcI : (4 : Int) ≤ (c1 : Int) := by omega
      have hbI : (4 : Int) ≤ (bl : Int) := by omega
      have hsI : (sz : Int) + 4 ≤ (bl : Int) := by omega
      have hs0 : (0 : Int) ≤ (sz : Int) := by omega
      clear hrd1 hrd2 hrd3 hle2 t1 t2 t3 t4 hbl hbm hszz hcb hdc e32
      clear hmid HR3
      have HG1 := Aside0.mk (gb_drew HD.out.grown)
      go_wp2_with fail
      go_region_held3 (fun w' => w'.cell? ⟨g, 1, none⟩ = some (.slice A1 bl c1)) (first | exact f1 | exact e1 | (go_keep; done)) (first | (go_at_call 77; refine (uint32_le A1 4 c1 (le (sz : Int) 4) (sz : Int) _ (HR1.out _ (HG1.out)) (Nat.le_refl _) (by rw [le_take]) (by omega) (by omega)).mono ?_; rintro e w3 ⟨rfl, hb3⟩; have HB3 := Aside0.mk hb3; have hb4 : w3.heap[g]? = some (.cells (mkF wd rem.length (.slice A1 bl c1)) 71 (0, 0)) := (hb3.block g (block_lt HD.out.blk)).trans (by rw [← HBL.out]; exact HD.out.blk); have HB4 := Aside0.mk hb4; have e0 : w3.cell? ⟨g, 0, none⟩ = some (.int .i64 rem.length) := blk_cell hb4 0; have e1 : w3.cell? ⟨g, 1, none⟩ = some (.slice A1 bl c1) := blk_cell hb4 1; have ez := blk_frozen hb4 1; clear hb3 hb4 f0 f1 f2 fz))
      clear hw32
      go_wp2_with fail
      go_roundw
      case rel =>
        refine ⟨k + 1, A2, c1 - (sz + 4), by omega, by go_num, ⟨⟨gb_set (gb_below HG1.out HB3.out) (.inl rfl) _, HD.out.lt, ?_, HR2.out, HL2.out, ?_⟩⟩, ⟨gb_set (gb_below (gb_drew HG.out) HB3.out) (.inl rfl) _⟩⟩
        · rw [HBM.out]
          exact blk_set HB4.out 1 (.slice A2 bm (c1 - (sz + 4)))
        · have h1 := HD.out.small
          have h2 := HBL.out
          have h3 := HBM.out
          have h4 := HT4.out
          omega
      case measure => simp [intOf]; omega
    · obtain rfl : k = n := by omega
      obtain ⟨f0, f1, f2, fz⟩ := HD.out.cells
      clear f1
      go_wp2
      go_ret2
      refine ⟨rfl, gb_set HG.out (.inl rfl) _, A1, c1, ?_⟩
      have hd := HD.out
      rw [List.append_nil] at hd
      refine ⟨gb_set hd.grown (.inl rfl) _, hd.lt, ?_, hd.rd, hd.le, hd.small⟩
      have h1 := blk_set hd.blk 0 (.int .i64 ((rem.length - k : Nat) : Int))
      have e : ((rem.length - k : Nat) : Int) = (rem.length : Int) - k := by omega
      rw [← e]
      exact h1
set_option maxRecDepth 100000 in
set_option maxHeartbeats 8000000 in
theorem decodeT (wd n g c : Nat) (A : Option Addr) (rem : List V) (W Wa : World) (hn : n ≤ rem.length) (hr : rem.length ≤ 500) (hL : ∀ v ∈ rem, v.txt.size ≤ 200) (h : DB 71 (mkT wd) W g Wa rem.length (rem.flatMap encT) A c) :
    Calls Try.prog 38 #[.pointer (some ⟨g, 0, none⟩), .slice (some ⟨Wa.heap.size, 0, none⟩) n n] (Wa.alloc (.cells (madeCells #[.slice none 0 0] n) 75)) (Red 71 75 (mkT wd) encT encS (RelT W g) W g Wa rem n) := by
  obtain ⟨f0, f1, f2, fz⟩ := h.cells
  obtain ⟨bl0, hbl0⟩ : ∃ bl, (rem.flatMap encT).length = bl := ⟨_, rfl⟩
  rw [hbl0] at f1
  have hqg : Wa.heap.size ≠ g := by have := h.lt; have := h.grown.size; omega
  have hgq : g ≠ Wa.heap.size := fun e => hqg e.symm
  have hglt : g < Wa.heap.size := by have := h.lt; have := h.grown.size; omega
  have HH := Aside0.mk h
  have HL := Aside0.mk hL
  clear h hL hbl0
  go_enter Try.func38, Try.ntmps38
  go_wp2_with (go_at_call 73; (with_reducible refine (min_left _ _ _ (by omega)).mono ?_); rintro e w1 ⟨rfl, rfl⟩)
  have hqf : madeCells #[Value.slice none 0 0] n = ((fill [] s0 n).map encS).toArray := made_fill encS s0 n
  go_loopw [7] (fun i wr => ∃ (k : Nat) (A : Option Addr) (c : Nat) (ss : List Slc), k ≤ n ∧ i = .int .i64 k ∧ ss.length = k ∧ Aside0 (DB 71 (mkT wd) W g wr rem.length ((rem.drop k).flatMap encT ++ []) A c) ∧ Aside0 (Wa.grownBy wr (some g)) ∧ Aside0 (wr.heap[Wa.heap.size]? = some (.cells ((fill ss s0 n).map encS).toArray 75 (0, 0))) ∧ Aside0 (All2 (RelT W g) ss (rem.take k))) (fun i _ => n - (intOf i).toNat)
  case atStart => exact ⟨0, A, c, [], Nat.zero_le _, rfl, rfl, ⟨⟨HH.out.grown.trans (World.grownBy_alloc _ _ _), HH.out.lt, (Below.heap_alloc _ _ _ hglt).trans (by simpa using HH.out.blk), by simpa using HH.out.rd, by simpa using HH.out.le, by simpa using HH.out.small⟩⟩, ⟨World.grownBy_alloc _ _ _⟩, ⟨by rw [← hqf]; exact heap_alloc_new _ _⟩, ⟨by simpa using All2.nil⟩⟩
  case round =>
    clear f0 f1 f2 fz hqf
    obtain ⟨k, A1, c1, ss, hk, rfl, hss, HD, HG, HQ, HA⟩ := hrel
    by_cases hlt : k < n
    · have hkr : k < rem.length := by omega
      obtain ⟨f0, f1, f2, fz⟩ := HD.out.cells
      have hsz : (gv rem k).txt.size ≤ 200 := HL.out _ (gv_mem hkr)
      obtain ⟨t1, t2, t3, t4⟩ := headT (gv rem k) ((rem.drop (k + 1)).flatMap encT ++ [])
      have hdc : (rem.drop k).flatMap encT ++ [] = encT (gv rem k) ++ ((rem.drop (k + 1)).flatMap encT ++ []) := by rw [drop_cons hkr, List.flatMap_cons, List.append_assoc]
      rw [← hdc] at t1 t2 t3 t4
      have hcb : ((rem.drop k).flatMap encT ++ []).length ≤ c1 := HD.out.le
      obtain ⟨hhead, hrd1⟩ := HD.out.rd.head c1 4 (by omega) hcb
      obtain ⟨AM, hmid, hrd3⟩ := HD.out.rd.mid c1 (gv rem k).txt.size (by omega) hcb
      obtain ⟨A2, hcut, hrd2, hle2⟩ := HD.out.rd.cutK .i32 c1 ((gv rem k).txt.size + 4) (by omega) hcb
      rw [t1] at hhead hrd1
      rw [t2] at hrd3
      rw [t3] at hcut hrd2 hle2
      rw [le_len] at hhead
      have HR1 := Aside0.mk hrd1
      have HR2 := Aside0.mk hrd2
      have HR3 := Aside0.mk hrd3
      have HL2 := Aside0.mk hle2
      have HDC := Aside0.mk hdc
      obtain ⟨sz, hszz⟩ : ∃ sz, (gv rem k).txt.size = sz := ⟨_, rfl⟩
      obtain ⟨bl, hbl⟩ : ∃ bl, ((rem.drop k).flatMap encT ++ []).length = bl := ⟨_, rfl⟩
      obtain ⟨bm, hbm⟩ : ∃ bm, ((rem.drop (k + 1)).flatMap encT ++ []).length = bm := ⟨_, rfl⟩
      rw [hszz] at hsz t4 hmid hcut HR1 HL2
      rw [hbl] at f1 hhead hcut hmid hcb t4
      rw [hbm] at hcut t4
      have HBM := Aside0.mk hbm
      have HBL := Aside0.mk hbl
      have HT4 := Aside0.mk t4
      have HSZ := Aside0.mk hszz
      have h4b : 4 ≤ bl := by omega
      have h4c : 4 ≤ c1 := by omega
      have hsb : sz + 4 ≤ bl := by omega
      have hsc : sz + 4 ≤ c1 := by omega
      have e32 : ((sz : Int) + 4) = ((sz + 4 : Nat) : Int) := by omega
      have HE32 := Aside0.mk e32
      have hs32 : (sz : Int) + 4 ≤ 204 := by omega
      have hlb : decide (bl < 4) = false := decide_eq_false (by omega)
      have HHEAD := Aside0.mk hhead
      rw [← e32] at hcut hmid
      rw [show ((4 : Nat) : Int) = 4 from rfl] at hhead
      have hw32 : IntKind.i32.wrap (sz : Int) = (sz : Int) := by rw [IntKind.wrap_i32]; omega
      have hcI : (4 : Int) ≤ (c1 : Int) := by omega
      have hbI : (4 : Int) ≤ (bl : Int) := by omega
      have hsI : (sz : Int) + 4 ≤ (bl : Int) := by omega
      have hs0 : (0 : Int) ≤ (sz : Int) := by omega
      clear hrd1 hrd2 hrd3 hle2 t1 t2 t3 t4 hbl hbm hszz hcb hdc e32
      have hql : Wa.heap.size < wr.heap.size := block_lt HQ.out
      have HG1 := Aside0.mk (gb_drew HD.out.grown)
      go_wp2_with fail
      go_region_held3 (fun w' => w'.cell? ⟨g, 1, none⟩ = some (.slice A1 bl c1)) (first | exact f1 | exact e1 | (go_keep; done)) (first | (go_at_call 77; refine (uint32_le A1 4 c1 (le (sz : Int) 4) (sz : Int) _ (HR1.out _ (HG1.out)) (Nat.le_refl _) (by rw [le_take]) (by omega) (by omega)).mono ?_; rintro e w3 ⟨rfl, hb3⟩; have HB3 := Aside0.mk hb3; have hb4 : w3.heap[g]? = some (.cells (mkF wd rem.length (.slice A1 bl c1)) 71 (0, 0)) := (hb3.block g (block_lt HD.out.blk)).trans (by rw [← HBL.out]; exact HD.out.blk); have HB4 := Aside0.mk hb4; have e0 : w3.cell? ⟨g, 0, none⟩ = some (.int .i64 rem.length) := blk_cell hb4 0; have e1 : w3.cell? ⟨g, 1, none⟩ = some (.slice A1 bl c1) := blk_cell hb4 1; have ez := blk_frozen hb4 1; have hq4 : w3.heap[Wa.heap.size]? = some (.cells ((fill ss s0 n).map encS).toArray 75 (0, 0)) := (hb3.block _ hql).trans HQ.out; have HQ4 := Aside0.mk hq4; have hq0 : w3.cell? ⟨Wa.heap.size, k, none⟩ = some (.slice none 0 0) := (by rw [blk_cell hq4 k, ← hss]; exact fill_cell encS ss s0 n (by omega)); have hqz := blk_frozen hq4 k; clear hb3 hb4 hq4 f0 f1 f2 fz))
      clear hw32
      go_wp2_with fail
      go_roundw
      case rel =>
        refine ⟨k + 1, A2, c1 - (sz + 4), ss ++ [(AM, sz, sz)], by omega, by go_num, by simp [hss], ⟨⟨?_, HD.out.lt, ?_, HR2.out, HL2.out, ?_⟩⟩, ⟨?_⟩, ⟨?_⟩, ⟨?_⟩⟩
        · exact gb_set (p := ⟨g, 1, none⟩) (gb_set (p := ⟨Wa.heap.size, k, none⟩) (gb_below HG1.out HB3.out) (.inr HH.out.grown.size) _) (.inl rfl) _
        · rw [HBM.out]
          exact blk_set ((Below.heap_setCell w3 ⟨Wa.heap.size, k, none⟩ (.slice AM sz sz) g hgq).trans HB4.out) 1 (.slice A2 bm (c1 - (sz + 4)))
        · have h1 := HD.out.small
          have h2 := HBL.out
          have h3 := HBM.out
          have h4 := HT4.out
          omega
        · exact gb_set (p := ⟨g, 1, none⟩) (gb_set (p := ⟨Wa.heap.size, k, none⟩) (gb_below (gb_drew HG.out) HB3.out) (.inr (Nat.le_refl _)) _) (.inl rfl) _
        · have h1 := blk_set HQ4.out k (.slice AM sz sz)
          have h2 := fill_put encS ss s0 (AM, sz, sz) n (by omega)
          rw [hss] at h2
          exact (Below.heap_setCell _ ⟨g, 1, none⟩ _ Wa.heap.size hqg).trans (by rw [h1, ← h2]; rfl)
        · rw [take_snoc rem k hkr]
          exact HA.out.snoc ⟨by show sz = _; rw [bytesOf_length, HSZ.out], HR3.out⟩
      case measure => simp [intOf]; omega
    · obtain rfl : k = n := by omega
      obtain ⟨f0, f1, f2, fz⟩ := HD.out.cells
      clear f1
      go_wp2
      go_ret2
      have hd := HD.out
      rw [List.append_nil] at hd
      refine ⟨rfl, gb_set HG.out (.inl rfl) _, ⟨A1, c1, gb_set hd.grown (.inl rfl) _, hd.lt, ?_, hd.rd, hd.le, hd.small⟩, ss, hss, ?_, HA.out⟩
      · have h1 := blk_set hd.blk 0 (.int .i64 ((rem.length - k : Nat) : Int))
        have e : ((rem.length - k : Nat) : Int) = (rem.length : Int) - k := by omega
        rw [← e]
        exact h1
      · have h1 := (Below.heap_setCell wr ⟨g, 0, none⟩ (.int .i64 ((rem.length : Int) - k)) Wa.heap.size hqg).trans HQ.out
        rw [← hss] at h1 ⊢
        rw [fill_all] at h1
        exact h1

end Go.Proofs.Ytbghkoalmjfpiaa.Plain
