/- Small functions: the rule's own form, what has been told, the room. -/
import Derived.Test.YtcjobencclihdaaDoorLvR
namespace Go.Proofs.YtcjobencclihdaaDoor.Lv
open Go.RowKit Go.Proofs.YtcjobencclihdaaDoorW.PrintWords Go.Proofs.YtcjobencclihdaaDoorW.PrintLast Go.Proofs.YtcjobencclihdaaDoorW.PrintMore
set_option linter.unusedVariables false
set_option linter.unusedSimpArgs false

theorem i32_small (x : Nat) (h : x < 2147483648) : IntKind.i32.wrap (x : Int) = (x : Int) := by rw [IntKind.wrap_i32]; omega
def ruleV (a b c d : Nat) : Value := .agg #[.int .i64 a, .int .i64 b, .int .i64 c, .int .i64 d]
def infoV (a b c d : Nat) : Value := .agg #[.int .i32 a, .int .i16 b, .int .i16 c, .int .i16 d]
set_option maxRecDepth 100000 in
set_option maxHeartbeats 4000000 in
theorem info_fn (a b c d : Nat) (ha : a < 1000) (hb : b < 1000) (hc : c < 1000) (hd : d < 1000) (w : World) :
    Calls Tryd.prog 16 #[ruleV a b c d] w (fun e w' => e = .returned (infoV a b c d) ∧ Below w.heap.size w w') := by
  have ea := i32_small a (by omega)
  have eb := i16_small b (by omega)
  have ec := i16_small c (by omega)
  have ed := i16_small d (by omega)
  unfold ruleV infoV
  clear ha hb hc hd
  go_enter Tryd.func16, Tryd.ntmps16
  go_wp2
  exact bodyPost_ret (v := .agg #[.int .i32 a, .int .i16 b, .int .i16 c, .int .i16 d]) (by simp [results, Tryd.results16, go_sem]) rfl ⟨rfl, by go_grown⟩
/-- A block of room and results: what an 'out' holds. -/
structure Out (w : World) (o : Nat) (up rd nl : Int) (vb : Value) (off : Int) : Prop where
  blk : w.heap[o]? = some (.cells #[.int .i64 up, .int .i64 rd, .int .i64 nl, vb, .int .i64 off] 73 (0, 0))
set_option maxRecDepth 100000 in
set_option maxHeartbeats 4000000 in
theorem told_fn (o : Nat) (up rd nl off : Int) (A : Option Addr) (n c : Nat) (w : World) (h : Out w o up rd nl (.slice A n c) off) :
    Calls Tryd.prog 17 #[.pointer (some ⟨o, 0, none⟩)] w (fun e w' => e = .returned (.agg #[.int .i64 rd, .int .i64 nl, .slice A n c]) ∧ Below w.heap.size w w') := by
  have p0 : ∀ i, w.cell? ⟨o, i, none⟩ = #[.int .i64 up, .int .i64 rd, .int .i64 nl, .slice A n c, .int .i64 off][i]? := fun i => blk_cell h.blk i
  have p1 : w.cell? ⟨o, 1, none⟩ = some (.int .i64 rd) := p0 1
  have p2 : w.cell? ⟨o, 2, none⟩ = some (.int .i64 nl) := p0 2
  have p3 : w.cell? ⟨o, 3, none⟩ = some (.slice A n c) := p0 3
  have q1 := block_lt h.blk
  clear p0 h
  go_enter Tryd.func17, Tryd.ntmps17
  go_wp2_with fail
  go_region_held3 (fun w' => w'.cell? ⟨o, 1, none⟩ = some (.int .i64 rd) ∧ w'.cell? ⟨o, 2, none⟩ = some (.int .i64 nl) ∧ w'.cell? ⟨o, 3, none⟩ = some (.slice A n c)) (first | exact ⟨p1, p2, p3⟩ | (go_keep; done)) (fail)
  go_wp2_with fail
  exact bodyPost_ret (v := .agg #[.int .i64 rd, .int .i64 nl, .slice A n c]) (by simp [results, Tryd.results17, go_sem]) rfl ⟨rfl, by go_grown⟩
theorem info5 : (Tryd.prog.info? 5).map (fun i => (i.zero, i.size, i.bytes)) = some (some (.int .u8 0), 1, 1) := by kernel_rfl
/-- The room that a caller gives. -/
def roomV (up : Nat) (has : Bool) (A : Option Addr) (n c : Nat) (off : Int) : Value := .agg #[.int .i64 up, .bool has, .slice A n c, .int .i64 off]
theorem own8_lower {w : World} {b b' : Nat} {v : Value} {xs : List Int} (h : Kd.R (Kd.int .u8) 5 w b (fun _ => True) v xs) (hb : b' ≤ b) : Kd.R (Kd.int .u8) 5 w b' (fun _ => True) v xs := by
  obtain ⟨h1, h2⟩ := Kd.own_of_R h
  refine Kd.R_of_own ⟨h1, ?_⟩ (fun _ _ => trivial)
  rcases h2 with h2 | ⟨g, cap, cur, e, hg, rest⟩
  · exact .inl h2
  · exact .inr ⟨g, cap, cur, e, Nat.le_trans hb hg, rest⟩
/-- What stands for the room: a block, and bytes of its own. -/
def RetOut (up : Nat) (bs : List Int) (off : Int) (w : World) (e : Ending) (w' : World) : Prop := ∃ o v, e = .returned (.pointer (some ⟨o, 0, none⟩)) ∧ w.heap.size ≤ o ∧ Out w' o up 0 0 v off ∧ Kd.R (Kd.int .u8) 5 w' w.heap.size (fun _ => True) v bs ∧ Below w.heap.size w w'
set_option maxRecDepth 100000 in
set_option maxHeartbeats 4000000 in
theorem out_fn (up : Nat) (A : Option Addr) (n c : Nat) (off : Int) (bs : List Int) (w : World) (hC : Kd.C (Kd.int .u8) w A n bs) (hnc : n ≤ c) (hn : n ≤ 1048576) :
    Calls Tryd.prog 14 #[roomV up true A n c off] w (RetOut up bs off w) := by
  have HC := Aside0.mk hC
  unfold roomV
  obtain ⟨W, hW⟩ : ∃ W, (w.alloc (.cells #[.int .i64 up, .bool true, .slice A n c, .int .i64 off] 37)).alloc (.cells #[.int .i64 up, .int .i64 0, .int .i64 0, .slice none 0 0, .int .i64 off] 73) = W := ⟨_, rfl⟩
  have HB := Aside0.mk (show Below w.heap.size w W by rw [← hW]; go_grown)
  have HX := Aside0.mk (show W.heap[w.heap.size + 1]? = some (.cells #[.int .i64 up, .int .i64 0, .int .i64 0, .slice none 0 0, .int .i64 off] 73 (0, 0)) by rw [← hW]; exact (two_blocks _ _ _).2)
  have hWs : W.heap.size = w.heap.size + 2 := by rw [← hW]; simp
  have HW := Aside0.mk (And.intro hW hWs)
  clear hC hW hWs
  go_enter Tryd.func14, Tryd.ntmps14
  go_wp2_with ((with_reducible refine gate_builtin (b := .append) (xs := #[.tmp 13, .tmp 15]) rfl ?_); at_builtin; refine appN (Kd.int .u8) (w0 := W) W.heap.size (fun _ _ _ _ h => h) rfl (.tmp 13) (.tmp 15) 30 5 (.int .u8 0) 1 rfl Tryd.underlying30 info5 rfl (by decide) (by omega) _ [] bs A n c rfl rfl (by rw [HW.out.1]; exact Kd.R_of_own (h1 := fun _ => rfl) (enc := Value.int .u8) (by have := own_lit W _ 5 .u8 [] (Nat.le_refl _) (by simp); rw [HW.out.2] at this ⊢; exact this) (fun _ _ => trivial)) (by rw [HW.out.1]; exact Kd.C_below HC.out (HB.out.alloc HB.out.size _)) (by rw [HW.out.1]; exact (Below.refl _ _).alloc (Nat.le_refl _) _) (by rw [HW.out.1]; simp) (by simp; omega) ?_; refine stopHere ?_)
  unfold Stop
  intro v9 w9 ho hb
  have hx := (hb.block _ (block_lt HX.out)).trans HX.out
  have p3 : w9.cell? ⟨w.heap.size + 1, 3, none⟩ = some (.slice none 0 0) := by rw [blk_cell hx]; rfl
  have q3 := blk_frozen hx 3
  have HB9 := Aside0.mk (HB.out.trans (hb.mono HB.out.size))
  have hne := Kd.R_ne ho hx (by decide)
  obtain ⟨A9, c9, rfl, hc9, _⟩ := Kd.R_reads ho
  have HF := Aside0.mk (And.intro (blk_set hx 3 (.slice A9 bs.length c9)) (Kd.R_of_own (h1 := fun _ => rfl) (enc := Value.int .u8) (ok := fun _ => True) (own_setCell (p := ⟨w.heap.size + 1, 3, none⟩) (Kd.own_of_R ho) hne (.slice A9 bs.length c9)) (fun _ _ => trivial)))
  have HS := Aside0.mk HW.out.2
  clear ho hb hx hne
  go_wp2_with fail
  go_ret
  exact ⟨w.heap.size + 1, _, rfl, Nat.le_succ _, ⟨by simpa using HF.out.1⟩, own8_lower HF.out.2 (by have := HS.out; omega), HB9.out.setCell (p := ⟨w.heap.size + 1, 3, none⟩) (Nat.le_succ _) _⟩

end Go.Proofs.YtcjobencclihdaaDoor.Lv
