/- What the package says of one type's bytes: how many, written, read, a list of them. -/
import Derived.Test.YtmdmpdbnnegpiaaGreatDoorCmG0
namespace Go.Proofs.YtmdmpdbnnegpiaaGreatDoor.Cmp
open Go.RowKit Go.Proofs.YtmdmpdbnnegpiaaGreatDoorW.PrintWords Go.Proofs.YtmdmpdbnnegpiaaGreatDoorW.PrintLast Go.Proofs.YtmdmpdbnnegpiaaGreatDoorW.PrintMore
set_option linter.unusedVariables false
set_option linter.unusedSimpArgs false

attribute [local go_sem] run_store_float
def OkU (x : Int) : Prop := 0 ≤ x ∧ x < 65536
set_option maxRecDepth 100000 in
theorem size0U (w : World) : Calls Tryz.prog 40 #[] w fun e w' => e = .returned (.int .i64 2) ∧ Below w.heap.size w w' := by
  have ta86 := fun (v : Value) (W : World) => ta_no (P := Tryz.prog) (t := 90) (a := 86) (xT := 20) v (.pointer none) (by kernel_rfl) (by kernel_rfl) (by decide) W
  have ta87 := fun (v : Value) (W : World) => ta_no (P := Tryz.prog) (t := 90) (a := 87) (xT := 20) v (.pointer none) (by kernel_rfl) (by kernel_rfl) (by decide) W
  have ta88 := fun (v : Value) (W : World) => ta_no (P := Tryz.prog) (t := 90) (a := 88) (xT := 20) v (.pointer none) (by kernel_rfl) (by kernel_rfl) (by decide) W
  have ta89 := fun (v : Value) (W : World) => ta_no (P := Tryz.prog) (t := 90) (a := 89) (xT := 20) v (.pointer none) (by kernel_rfl) (by kernel_rfl) (by decide) W
  have ta90 := fun (v : Value) (W : World) => ta_yes (P := Tryz.prog) (t := 90) (xT := 20) v (by kernel_rfl) W
  have ta91 := fun (v : Value) (W : World) => ta_no (P := Tryz.prog) (t := 90) (a := 91) (xT := 20) v (.pointer none) (by kernel_rfl) (by kernel_rfl) (by decide) W
  have ta92 := fun (v : Value) (W : World) => ta_no (P := Tryz.prog) (t := 90) (a := 92) (xT := 20) v (.pointer none) (by kernel_rfl) (by kernel_rfl) (by decide) W
  have ta93 := fun (v : Value) (W : World) => ta_no (P := Tryz.prog) (t := 90) (a := 93) (xT := 20) v (.pointer none) (by kernel_rfl) (by kernel_rfl) (by decide) W
  have ta94 := fun (v : Value) (W : World) => ta_no (P := Tryz.prog) (t := 90) (a := 94) (xT := 20) v (.pointer none) (by kernel_rfl) (by kernel_rfl) (by decide) W
  have ta95 := fun (v : Value) (W : World) => ta_no (P := Tryz.prog) (t := 90) (a := 95) (xT := 20) v (.pointer none) (by kernel_rfl) (by kernel_rfl) (by decide) W
  have ta96 := fun (v : Value) (W : World) => ta_no (P := Tryz.prog) (t := 90) (a := 96) (xT := 20) v (.pointer none) (by kernel_rfl) (by kernel_rfl) (by decide) W
  have ta97 := fun (v : Value) (W : World) => ta_no (P := Tryz.prog) (t := 90) (a := 97) (xT := 20) v (.pointer none) (by kernel_rfl) (by kernel_rfl) (by decide) W
  have ta98 := fun (v : Value) (W : World) => ta_no (P := Tryz.prog) (t := 90) (a := 98) (xT := 20) v (.pointer none) (by kernel_rfl) (by kernel_rfl) (by decide) W
  have ta99 := fun (v : Value) (W : World) => ta_no (P := Tryz.prog) (t := 90) (a := 99) (xT := 20) v (.pointer none) (by kernel_rfl) (by kernel_rfl) (by decide) W
  have ta100 := fun (v : Value) (W : World) => ta_no (P := Tryz.prog) (t := 90) (a := 100) (xT := 20) v (.pointer none) (by kernel_rfl) (by kernel_rfl) (by decide) W
  have ta101 := fun (v : Value) (W : World) => ta_no (P := Tryz.prog) (t := 90) (a := 101) (xT := 20) v (.pointer none) (by kernel_rfl) (by kernel_rfl) (by decide) W
  have ta102 := fun (v : Value) (W : World) => ta_no (P := Tryz.prog) (t := 90) (a := 102) (xT := 20) v (.pointer none) (by kernel_rfl) (by kernel_rfl) (by decide) W
  have ta103 := fun (v : Value) (W : World) => ta_no (P := Tryz.prog) (t := 90) (a := 103) (xT := 20) v (.pointer none) (by kernel_rfl) (by kernel_rfl) (by decide) W
  have ta104 := fun (v : Value) (W : World) => ta_no (P := Tryz.prog) (t := 90) (a := 104) (xT := 20) v (.pointer none) (by kernel_rfl) (by kernel_rfl) (by decide) W
  have ta105 := fun (v : Value) (W : World) => ta_no (P := Tryz.prog) (t := 90) (a := 105) (xT := 20) v (.pointer none) (by kernel_rfl) (by kernel_rfl) (by decide) W
  have ta106 := fun (v : Value) (W : World) => ta_no (P := Tryz.prog) (t := 90) (a := 106) (xT := 20) v (.pointer none) (by kernel_rfl) (by kernel_rfl) (by decide) W
  go_enter Tryz.func40, Tryz.ntmps40
  go_wp2
  go_ret
  exact ⟨rfl, by go_grown⟩
set_option maxRecDepth 100000 in
theorem sizeU (w : World) : Calls Tryz.prog 26 #[] w fun e w' => e = .returned (.int .i64 2) ∧ Below w.heap.size w w' := by
  go_enter Tryz.func26, Tryz.ntmps26
  go_wp2_with (go_at_call 40; (with_reducible refine (size0U _).mono ?_); rintro e w1 ⟨rfl, hb⟩)
  go_ret
  exact ⟨rfl, hb⟩
set_option maxRecDepth 100000 in
set_option maxHeartbeats 4000000 in
theorem putOneU (g o c : Nat) (x : Int) (bs : List Int) (w : World) (hw : W8 w g 5 [] bs) (hn : o + 2 ≤ bs.length) (hx : OkU x) :
    Calls Tryz.prog 41 #[.slice (some ⟨g, o, none⟩) 2 c, encU x] w (PutL w g bs o (le x 2)) := by
  have ta86 := fun (v : Value) (W : World) => ta_no (P := Tryz.prog) (t := 90) (a := 86) (xT := 20) v (.pointer none) (by kernel_rfl) (by kernel_rfl) (by decide) W
  have ta87 := fun (v : Value) (W : World) => ta_no (P := Tryz.prog) (t := 90) (a := 87) (xT := 20) v (.pointer none) (by kernel_rfl) (by kernel_rfl) (by decide) W
  have ta88 := fun (v : Value) (W : World) => ta_no (P := Tryz.prog) (t := 90) (a := 88) (xT := 20) v (.pointer none) (by kernel_rfl) (by kernel_rfl) (by decide) W
  have ta89 := fun (v : Value) (W : World) => ta_no (P := Tryz.prog) (t := 90) (a := 89) (xT := 20) v (.pointer none) (by kernel_rfl) (by kernel_rfl) (by decide) W
  have ta90 := fun (v : Value) (W : World) => ta_yes (P := Tryz.prog) (t := 90) (xT := 20) v (by kernel_rfl) W
  have ta91 := fun (v : Value) (W : World) => ta_no (P := Tryz.prog) (t := 90) (a := 91) (xT := 20) v (.pointer none) (by kernel_rfl) (by kernel_rfl) (by decide) W
  have ta92 := fun (v : Value) (W : World) => ta_no (P := Tryz.prog) (t := 90) (a := 92) (xT := 20) v (.pointer none) (by kernel_rfl) (by kernel_rfl) (by decide) W
  have ta93 := fun (v : Value) (W : World) => ta_no (P := Tryz.prog) (t := 90) (a := 93) (xT := 20) v (.pointer none) (by kernel_rfl) (by kernel_rfl) (by decide) W
  have ta94 := fun (v : Value) (W : World) => ta_no (P := Tryz.prog) (t := 90) (a := 94) (xT := 20) v (.pointer none) (by kernel_rfl) (by kernel_rfl) (by decide) W
  have ta95 := fun (v : Value) (W : World) => ta_no (P := Tryz.prog) (t := 90) (a := 95) (xT := 20) v (.pointer none) (by kernel_rfl) (by kernel_rfl) (by decide) W
  have ta96 := fun (v : Value) (W : World) => ta_no (P := Tryz.prog) (t := 90) (a := 96) (xT := 20) v (.pointer none) (by kernel_rfl) (by kernel_rfl) (by decide) W
  have ta97 := fun (v : Value) (W : World) => ta_no (P := Tryz.prog) (t := 90) (a := 97) (xT := 20) v (.pointer none) (by kernel_rfl) (by kernel_rfl) (by decide) W
  have ta98 := fun (v : Value) (W : World) => ta_no (P := Tryz.prog) (t := 90) (a := 98) (xT := 20) v (.pointer none) (by kernel_rfl) (by kernel_rfl) (by decide) W
  have ta99 := fun (v : Value) (W : World) => ta_no (P := Tryz.prog) (t := 90) (a := 99) (xT := 20) v (.pointer none) (by kernel_rfl) (by kernel_rfl) (by decide) W
  have ta100 := fun (v : Value) (W : World) => ta_no (P := Tryz.prog) (t := 90) (a := 100) (xT := 20) v (.pointer none) (by kernel_rfl) (by kernel_rfl) (by decide) W
  have ta101 := fun (v : Value) (W : World) => ta_no (P := Tryz.prog) (t := 90) (a := 101) (xT := 20) v (.pointer none) (by kernel_rfl) (by kernel_rfl) (by decide) W
  have ta102 := fun (v : Value) (W : World) => ta_no (P := Tryz.prog) (t := 90) (a := 102) (xT := 20) v (.pointer none) (by kernel_rfl) (by kernel_rfl) (by decide) W
  have ta103 := fun (v : Value) (W : World) => ta_no (P := Tryz.prog) (t := 90) (a := 103) (xT := 20) v (.pointer none) (by kernel_rfl) (by kernel_rfl) (by decide) W
  have ta104 := fun (v : Value) (W : World) => ta_no (P := Tryz.prog) (t := 90) (a := 104) (xT := 20) v (.pointer none) (by kernel_rfl) (by kernel_rfl) (by decide) W
  have ta105 := fun (v : Value) (W : World) => ta_no (P := Tryz.prog) (t := 90) (a := 105) (xT := 20) v (.pointer none) (by kernel_rfl) (by kernel_rfl) (by decide) W
  have ta106 := fun (v : Value) (W : World) => ta_no (P := Tryz.prog) (t := 90) (a := 106) (xT := 20) v (.pointer none) (by kernel_rfl) (by kernel_rfl) (by decide) W
  have HP := Aside0.mk (fun (W : World) (hW : W8 W g 5 [] bs) => putU16 g o c x bs W hW hn hx.1 hx.2)
  have HW := Aside0.mk hw
  have hgl : g < w.heap.size := block_lt hw
  have HX := Aside0.mk hx
  clear hw hx
  show Calls Tryz.prog 41 #[.slice (some ⟨g, o, none⟩) 2 c, .int .u16 x] w _
  go_enter Tryz.func41, Tryz.ntmps41
  go_wp2
  have f0 : (w.alloc (.cells #[.int .u16 x] 62)).cell? ⟨w.heap.size, 0, none⟩ = some (.int .u16 x) := blk_cell (heap_alloc_new w _) 0
  have HW1 := Aside0.mk (W8.alloc HW.out (.cells #[.int .u16 x] 62))
  go_region_held3 (fun w' => w'.cell? ⟨w.heap.size, 0, none⟩ = some (.int .u16 x)) (first | exact f0 | exact e3 | (go_keep; done)) (first | (go_at_call 44; refine (HP.out (World.drew (w.alloc (.cells #[.int .u16 x] 62))) HW1.out).mono ?_; rintro e w3 ⟨rfl, hg3, hw3⟩; have e3 := gb_cell hg3 (Nat.ne_of_gt hgl) (show (World.drew (w.alloc (.cells #[.int .u16 x] 62))).cell? ⟨w.heap.size, 0, none⟩ = some (.int .u16 x) from f0); have HG3 := Aside0.mk hg3; have HW3 := Aside0.mk hw3; clear hg3 hw3))
  go_wp2
  go_end0
  exact ⟨rfl, (gb_drew (World.grownBy_alloc _ _ _)).trans HG3.out, HW3.out⟩
set_option maxRecDepth 100000 in
set_option maxHeartbeats 4000000 in
theorem putAtU (g i n : Nat) (x : Int) (bs : List Int) (w : World) (hw : W8 w g 5 [] bs) (hn : bs.length = n) (hi : i * 2 + 2 ≤ n) (hb : n ≤ 100000) (hx : OkU x) :
    Calls Tryz.prog 27 #[.slice (some ⟨g, 0, none⟩) n n, .int .i64 i, encU x] w (PutL w g bs (i * 2) (le x 2)) := by
  obtain ⟨p, hp⟩ : ∃ p, i * 2 = p := ⟨_, rfl⟩
  rw [hp] at hi ⊢
  have HP := Aside0.mk (fun (W : World) (hW : W8 W g 5 [] bs) => putOneU g p (n - p) x bs W hW (by omega) hx)
  have hcut := mid8 g n p 2 hi (by omega)
  have e1 : IntKind.i64.wrap ((i : Int) * 2) = (p : Int) := by rw [IntKind.wrap_i64]; omega
  have e2 : IntKind.i64.wrap ((p : Int) + 2) = (p : Int) + 2 := by rw [IntKind.wrap_i64]; omega
  have hp0 : (0 : Int) ≤ p := by omega
  have hpn : (p : Int) + 2 ≤ (n : Int) := by omega
  have HW := Aside0.mk hw
  clear hw hp hn hx
  go_enter Tryz.func27, Tryz.ntmps27
  go_wp2_with (first | (go_at_call 40; (with_reducible refine (size0U _).mono ?_); rintro e w1 ⟨rfl, hb1⟩; have HB1 := Aside0.mk hb1; have HW1 := Aside0.mk (show W8 w1 g 5 [] bs from (hb1.block g (block_lt HW.out)).trans HW.out); clear hb1) | (go_at_call 41; (refine (HP.out _ HW1.out).mono ?_); rintro e w3 ⟨rfl, hg3, hw3⟩; have HG3 := Aside0.mk hg3; have HW3 := Aside0.mk hw3; clear hg3 hw3))
  go_end0
  exact ⟨rfl, (gb_below (World.grownBy.refl _ _) HB1.out).trans HG3.out, HW3.out⟩
set_option maxRecDepth 100000 in
set_option maxHeartbeats 4000000 in
theorem getOneU (A : Option Addr) (c : Nat) (xs : List Int) (x : Int) (w : World) (h : ReadsOf (Value.int .u8) (0 : Int) w A 2 xs) (hxs : xs = le x 2) (hx : OkU x) :
    Calls Tryz.prog 113 #[.slice A 2 c] w fun e w' => e = .returned (encU x) ∧ Below w.heap.size w w' := by
  have ta86 := fun (v : Value) (W : World) => ta_no (P := Tryz.prog) (t := 90) (a := 86) (xT := 20) v (.pointer none) (by kernel_rfl) (by kernel_rfl) (by decide) W
  have ta87 := fun (v : Value) (W : World) => ta_no (P := Tryz.prog) (t := 90) (a := 87) (xT := 20) v (.pointer none) (by kernel_rfl) (by kernel_rfl) (by decide) W
  have ta88 := fun (v : Value) (W : World) => ta_no (P := Tryz.prog) (t := 90) (a := 88) (xT := 20) v (.pointer none) (by kernel_rfl) (by kernel_rfl) (by decide) W
  have ta89 := fun (v : Value) (W : World) => ta_no (P := Tryz.prog) (t := 90) (a := 89) (xT := 20) v (.pointer none) (by kernel_rfl) (by kernel_rfl) (by decide) W
  have ta90 := fun (v : Value) (W : World) => ta_yes (P := Tryz.prog) (t := 90) (xT := 20) v (by kernel_rfl) W
  have ta91 := fun (v : Value) (W : World) => ta_no (P := Tryz.prog) (t := 90) (a := 91) (xT := 20) v (.pointer none) (by kernel_rfl) (by kernel_rfl) (by decide) W
  have ta92 := fun (v : Value) (W : World) => ta_no (P := Tryz.prog) (t := 90) (a := 92) (xT := 20) v (.pointer none) (by kernel_rfl) (by kernel_rfl) (by decide) W
  have ta93 := fun (v : Value) (W : World) => ta_no (P := Tryz.prog) (t := 90) (a := 93) (xT := 20) v (.pointer none) (by kernel_rfl) (by kernel_rfl) (by decide) W
  have ta94 := fun (v : Value) (W : World) => ta_no (P := Tryz.prog) (t := 90) (a := 94) (xT := 20) v (.pointer none) (by kernel_rfl) (by kernel_rfl) (by decide) W
  have ta95 := fun (v : Value) (W : World) => ta_no (P := Tryz.prog) (t := 90) (a := 95) (xT := 20) v (.pointer none) (by kernel_rfl) (by kernel_rfl) (by decide) W
  have ta96 := fun (v : Value) (W : World) => ta_no (P := Tryz.prog) (t := 90) (a := 96) (xT := 20) v (.pointer none) (by kernel_rfl) (by kernel_rfl) (by decide) W
  have ta97 := fun (v : Value) (W : World) => ta_no (P := Tryz.prog) (t := 90) (a := 97) (xT := 20) v (.pointer none) (by kernel_rfl) (by kernel_rfl) (by decide) W
  have ta98 := fun (v : Value) (W : World) => ta_no (P := Tryz.prog) (t := 90) (a := 98) (xT := 20) v (.pointer none) (by kernel_rfl) (by kernel_rfl) (by decide) W
  have ta99 := fun (v : Value) (W : World) => ta_no (P := Tryz.prog) (t := 90) (a := 99) (xT := 20) v (.pointer none) (by kernel_rfl) (by kernel_rfl) (by decide) W
  have ta100 := fun (v : Value) (W : World) => ta_no (P := Tryz.prog) (t := 90) (a := 100) (xT := 20) v (.pointer none) (by kernel_rfl) (by kernel_rfl) (by decide) W
  have ta101 := fun (v : Value) (W : World) => ta_no (P := Tryz.prog) (t := 90) (a := 101) (xT := 20) v (.pointer none) (by kernel_rfl) (by kernel_rfl) (by decide) W
  have ta102 := fun (v : Value) (W : World) => ta_no (P := Tryz.prog) (t := 90) (a := 102) (xT := 20) v (.pointer none) (by kernel_rfl) (by kernel_rfl) (by decide) W
  have ta103 := fun (v : Value) (W : World) => ta_no (P := Tryz.prog) (t := 90) (a := 103) (xT := 20) v (.pointer none) (by kernel_rfl) (by kernel_rfl) (by decide) W
  have ta104 := fun (v : Value) (W : World) => ta_no (P := Tryz.prog) (t := 90) (a := 104) (xT := 20) v (.pointer none) (by kernel_rfl) (by kernel_rfl) (by decide) W
  have ta105 := fun (v : Value) (W : World) => ta_no (P := Tryz.prog) (t := 90) (a := 105) (xT := 20) v (.pointer none) (by kernel_rfl) (by kernel_rfl) (by decide) W
  have ta106 := fun (v : Value) (W : World) => ta_no (P := Tryz.prog) (t := 90) (a := 106) (xT := 20) v (.pointer none) (by kernel_rfl) (by kernel_rfl) (by decide) W
  have hfb := fun (n : Int) (W : World) => from64 n W
  have HH := Aside0.mk h
  have HX := Aside0.mk hx
  have HXS := Aside0.mk hxs
  clear h hx hxs
  show Calls Tryz.prog 113 #[.slice A 2 c] w fun e w' => e = .returned (.int .u16 x) ∧ Below w.heap.size w w'
  go_enter Tryz.func113, Tryz.ntmps113
  go_wp2_with (first | (go_at_call 114; refine (uint16_le A 2 c xs x _ (ReadsOf.below HH.out ((Below.refl _ _).alloc (Nat.le_refl _) _)) (Nat.le_refl _) (by rw [HXS.out]; exact List.take_of_length_le (by rw [le_len]; exact Nat.le_refl _)) HX.out.1 HX.out.2).mono ?_; rintro e w3 ⟨rfl, hb3⟩; have k3 : w3.heap[w.heap.size]? = some (.cells #[.int .u16 0] 62 (0, 0)) := (hb3.block _ (by simp)).trans (heap_alloc_new w _); have f0 : w3.cell? ⟨w.heap.size, 0, none⟩ = some (.int .u16 0) := blk_cell k3 0; have z0 := blk_frozen k3 0; have HB3 := Aside0.mk (show Below w.heap.size w w3 from ((Below.refl _ _).alloc (Nat.le_refl _) _).trans (hb3.mono (by simp))); clear hb3 k3))
  go_wp2
  have k5 : ((w3.setCell ⟨w.heap.size, 0, none⟩ (.int .u16 x)).setCell ⟨w.heap.size, 0, none⟩ (.int .u16 x)).cell? ⟨w.heap.size, 0, none⟩ = some (.int .u16 x) := cell_twice f0
  exact bodyPost_ret (v := .int .u16 x) (by simp [results, Tryz.results113, go_sem, k5]) rfl ⟨rfl, by first | exact HB3.out.setCell (p := ⟨w.heap.size, 0, none⟩) (Nat.le_refl _) _ | exact (HB3.out.setCell (p := ⟨w.heap.size, 0, none⟩) (Nat.le_refl _) _).setCell (p := ⟨w.heap.size, 0, none⟩) (Nat.le_refl _) _⟩

end Go.Proofs.YtmdmpdbnnegpiaaGreatDoor.Cmp
