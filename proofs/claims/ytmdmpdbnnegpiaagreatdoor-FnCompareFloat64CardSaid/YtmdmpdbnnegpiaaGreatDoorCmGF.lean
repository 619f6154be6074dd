/- What the package says of one type's bytes: how many, written, read, a list of them. -/
import Derived.Test.YtmdmpdbnnegpiaaGreatDoorCmG0
namespace Go.Proofs.YtmdmpdbnnegpiaaGreatDoor.Cmp
open Go.RowKit Go.Proofs.YtmdmpdbnnegpiaaGreatDoorW.PrintWords Go.Proofs.YtmdmpdbnnegpiaaGreatDoorW.PrintLast Go.Proofs.YtmdmpdbnnegpiaaGreatDoorW.PrintMore
set_option linter.unusedVariables false
set_option linter.unusedSimpArgs false

attribute [local go_sem] run_store_float
def OkF (x : Int) : Prop := 0 ≤ x ∧ x < 18446744073709551616
set_option maxRecDepth 100000 in
theorem size0F (w : World) : Calls Tryz.prog 29 #[] w fun e w' => e = .returned (.int .i64 8) ∧ Below w.heap.size w w' := by
  have ta86 := fun (v : Value) (W : World) => ta_yes (P := Tryz.prog) (t := 86) (xT := 20) v (by kernel_rfl) W
  have ta87 := fun (v : Value) (W : World) => ta_no (P := Tryz.prog) (t := 86) (a := 87) (xT := 20) v (.pointer none) (by kernel_rfl) (by kernel_rfl) (by decide) W
  have ta88 := fun (v : Value) (W : World) => ta_no (P := Tryz.prog) (t := 86) (a := 88) (xT := 20) v (.pointer none) (by kernel_rfl) (by kernel_rfl) (by decide) W
  have ta89 := fun (v : Value) (W : World) => ta_no (P := Tryz.prog) (t := 86) (a := 89) (xT := 20) v (.pointer none) (by kernel_rfl) (by kernel_rfl) (by decide) W
  have ta90 := fun (v : Value) (W : World) => ta_no (P := Tryz.prog) (t := 86) (a := 90) (xT := 20) v (.pointer none) (by kernel_rfl) (by kernel_rfl) (by decide) W
  have ta91 := fun (v : Value) (W : World) => ta_no (P := Tryz.prog) (t := 86) (a := 91) (xT := 20) v (.pointer none) (by kernel_rfl) (by kernel_rfl) (by decide) W
  have ta92 := fun (v : Value) (W : World) => ta_no (P := Tryz.prog) (t := 86) (a := 92) (xT := 20) v (.pointer none) (by kernel_rfl) (by kernel_rfl) (by decide) W
  have ta93 := fun (v : Value) (W : World) => ta_no (P := Tryz.prog) (t := 86) (a := 93) (xT := 20) v (.pointer none) (by kernel_rfl) (by kernel_rfl) (by decide) W
  have ta94 := fun (v : Value) (W : World) => ta_no (P := Tryz.prog) (t := 86) (a := 94) (xT := 20) v (.pointer none) (by kernel_rfl) (by kernel_rfl) (by decide) W
  have ta95 := fun (v : Value) (W : World) => ta_no (P := Tryz.prog) (t := 86) (a := 95) (xT := 20) v (.pointer none) (by kernel_rfl) (by kernel_rfl) (by decide) W
  have ta96 := fun (v : Value) (W : World) => ta_no (P := Tryz.prog) (t := 86) (a := 96) (xT := 20) v (.pointer none) (by kernel_rfl) (by kernel_rfl) (by decide) W
  have ta97 := fun (v : Value) (W : World) => ta_no (P := Tryz.prog) (t := 86) (a := 97) (xT := 20) v (.pointer none) (by kernel_rfl) (by kernel_rfl) (by decide) W
  have ta98 := fun (v : Value) (W : World) => ta_no (P := Tryz.prog) (t := 86) (a := 98) (xT := 20) v (.pointer none) (by kernel_rfl) (by kernel_rfl) (by decide) W
  have ta99 := fun (v : Value) (W : World) => ta_no (P := Tryz.prog) (t := 86) (a := 99) (xT := 20) v (.pointer none) (by kernel_rfl) (by kernel_rfl) (by decide) W
  have ta100 := fun (v : Value) (W : World) => ta_no (P := Tryz.prog) (t := 86) (a := 100) (xT := 20) v (.pointer none) (by kernel_rfl) (by kernel_rfl) (by decide) W
  have ta101 := fun (v : Value) (W : World) => ta_no (P := Tryz.prog) (t := 86) (a := 101) (xT := 20) v (.pointer none) (by kernel_rfl) (by kernel_rfl) (by decide) W
  have ta102 := fun (v : Value) (W : World) => ta_no (P := Tryz.prog) (t := 86) (a := 102) (xT := 20) v (.pointer none) (by kernel_rfl) (by kernel_rfl) (by decide) W
  have ta103 := fun (v : Value) (W : World) => ta_no (P := Tryz.prog) (t := 86) (a := 103) (xT := 20) v (.pointer none) (by kernel_rfl) (by kernel_rfl) (by decide) W
  have ta104 := fun (v : Value) (W : World) => ta_no (P := Tryz.prog) (t := 86) (a := 104) (xT := 20) v (.pointer none) (by kernel_rfl) (by kernel_rfl) (by decide) W
  have ta105 := fun (v : Value) (W : World) => ta_no (P := Tryz.prog) (t := 86) (a := 105) (xT := 20) v (.pointer none) (by kernel_rfl) (by kernel_rfl) (by decide) W
  have ta106 := fun (v : Value) (W : World) => ta_no (P := Tryz.prog) (t := 86) (a := 106) (xT := 20) v (.pointer none) (by kernel_rfl) (by kernel_rfl) (by decide) W
  go_enter Tryz.func29, Tryz.ntmps29
  go_wp2
  go_ret
  exact ⟨rfl, by go_grown⟩
set_option maxRecDepth 100000 in
theorem sizeF (w : World) : Calls Tryz.prog 15 #[] w fun e w' => e = .returned (.int .i64 8) ∧ Below w.heap.size w w' := by
  go_enter Tryz.func15, Tryz.ntmps15
  go_wp2_with (go_at_call 29; (with_reducible refine (size0F _).mono ?_); rintro e w1 ⟨rfl, hb⟩)
  go_ret
  exact ⟨rfl, hb⟩
set_option maxRecDepth 100000 in
set_option maxHeartbeats 4000000 in
theorem putOneF (g o c : Nat) (x : Int) (bs : List Int) (w : World) (hw : W8 w g 5 [] bs) (hn : o + 8 ≤ bs.length) (hx : OkF x) :
    Calls Tryz.prog 30 #[.slice (some ⟨g, o, none⟩) 8 c, encF x] w (PutL w g bs o (le x 8)) := by
  have ta86 := fun (v : Value) (W : World) => ta_yes (P := Tryz.prog) (t := 86) (xT := 20) v (by kernel_rfl) W
  have ta87 := fun (v : Value) (W : World) => ta_no (P := Tryz.prog) (t := 86) (a := 87) (xT := 20) v (.pointer none) (by kernel_rfl) (by kernel_rfl) (by decide) W
  have ta88 := fun (v : Value) (W : World) => ta_no (P := Tryz.prog) (t := 86) (a := 88) (xT := 20) v (.pointer none) (by kernel_rfl) (by kernel_rfl) (by decide) W
  have ta89 := fun (v : Value) (W : World) => ta_no (P := Tryz.prog) (t := 86) (a := 89) (xT := 20) v (.pointer none) (by kernel_rfl) (by kernel_rfl) (by decide) W
  have ta90 := fun (v : Value) (W : World) => ta_no (P := Tryz.prog) (t := 86) (a := 90) (xT := 20) v (.pointer none) (by kernel_rfl) (by kernel_rfl) (by decide) W
  have ta91 := fun (v : Value) (W : World) => ta_no (P := Tryz.prog) (t := 86) (a := 91) (xT := 20) v (.pointer none) (by kernel_rfl) (by kernel_rfl) (by decide) W
  have ta92 := fun (v : Value) (W : World) => ta_no (P := Tryz.prog) (t := 86) (a := 92) (xT := 20) v (.pointer none) (by kernel_rfl) (by kernel_rfl) (by decide) W
  have ta93 := fun (v : Value) (W : World) => ta_no (P := Tryz.prog) (t := 86) (a := 93) (xT := 20) v (.pointer none) (by kernel_rfl) (by kernel_rfl) (by decide) W
  have ta94 := fun (v : Value) (W : World) => ta_no (P := Tryz.prog) (t := 86) (a := 94) (xT := 20) v (.pointer none) (by kernel_rfl) (by kernel_rfl) (by decide) W
  have ta95 := fun (v : Value) (W : World) => ta_no (P := Tryz.prog) (t := 86) (a := 95) (xT := 20) v (.pointer none) (by kernel_rfl) (by kernel_rfl) (by decide) W
  have ta96 := fun (v : Value) (W : World) => ta_no (P := Tryz.prog) (t := 86) (a := 96) (xT := 20) v (.pointer none) (by kernel_rfl) (by kernel_rfl) (by decide) W
  have ta97 := fun (v : Value) (W : World) => ta_no (P := Tryz.prog) (t := 86) (a := 97) (xT := 20) v (.pointer none) (by kernel_rfl) (by kernel_rfl) (by decide) W
  have ta98 := fun (v : Value) (W : World) => ta_no (P := Tryz.prog) (t := 86) (a := 98) (xT := 20) v (.pointer none) (by kernel_rfl) (by kernel_rfl) (by decide) W
  have ta99 := fun (v : Value) (W : World) => ta_no (P := Tryz.prog) (t := 86) (a := 99) (xT := 20) v (.pointer none) (by kernel_rfl) (by kernel_rfl) (by decide) W
  have ta100 := fun (v : Value) (W : World) => ta_no (P := Tryz.prog) (t := 86) (a := 100) (xT := 20) v (.pointer none) (by kernel_rfl) (by kernel_rfl) (by decide) W
  have ta101 := fun (v : Value) (W : World) => ta_no (P := Tryz.prog) (t := 86) (a := 101) (xT := 20) v (.pointer none) (by kernel_rfl) (by kernel_rfl) (by decide) W
  have ta102 := fun (v : Value) (W : World) => ta_no (P := Tryz.prog) (t := 86) (a := 102) (xT := 20) v (.pointer none) (by kernel_rfl) (by kernel_rfl) (by decide) W
  have ta103 := fun (v : Value) (W : World) => ta_no (P := Tryz.prog) (t := 86) (a := 103) (xT := 20) v (.pointer none) (by kernel_rfl) (by kernel_rfl) (by decide) W
  have ta104 := fun (v : Value) (W : World) => ta_no (P := Tryz.prog) (t := 86) (a := 104) (xT := 20) v (.pointer none) (by kernel_rfl) (by kernel_rfl) (by decide) W
  have ta105 := fun (v : Value) (W : World) => ta_no (P := Tryz.prog) (t := 86) (a := 105) (xT := 20) v (.pointer none) (by kernel_rfl) (by kernel_rfl) (by decide) W
  have ta106 := fun (v : Value) (W : World) => ta_no (P := Tryz.prog) (t := 86) (a := 106) (xT := 20) v (.pointer none) (by kernel_rfl) (by kernel_rfl) (by decide) W
  have HP := Aside0.mk (fun (W : World) (hW : W8 W g 5 [] bs) => putU64 g o c x bs W hW hn hx.1 hx.2)
  have HW := Aside0.mk hw
  have hgl : g < w.heap.size := block_lt hw
  have HX := Aside0.mk hx
  clear hw hx
  show Calls Tryz.prog 30 #[.slice (some ⟨g, o, none⟩) 8 c, .float .f64 x.toNat] w _
  have hfb : ∀ W : World, (callFunc 6 #[.float .f64 x.toNat]).run Tryz.prog W = .ok (.value (.int .u64 x)) W := fun W => by have h := bits64 x.toNat W; rwa [Int.toNat_of_nonneg HX.out.1] at h
  go_enter Tryz.func30, Tryz.ntmps30
  go_wp2
  have f0 : (w.alloc (.cells #[.float .f64 x.toNat] 28)).cell? ⟨w.heap.size, 0, none⟩ = some (.float .f64 x.toNat) := blk_cell (heap_alloc_new w _) 0
  have HW1 := Aside0.mk (W8.alloc HW.out (.cells #[.float .f64 x.toNat] 28))
  go_region_held3 (fun w' => w'.cell? ⟨w.heap.size, 0, none⟩ = some (.float .f64 x.toNat)) (first | exact f0 | exact e3 | (go_keep; done)) (first | (go_at_call 48; refine (HP.out (World.drew (w.alloc (.cells #[.float .f64 x.toNat] 28))) HW1.out).mono ?_; rintro e w3 ⟨rfl, hg3, hw3⟩; have e3 := gb_cell hg3 (Nat.ne_of_gt hgl) (show (World.drew (w.alloc (.cells #[.float .f64 x.toNat] 28))).cell? ⟨w.heap.size, 0, none⟩ = some (.float .f64 x.toNat) from f0); have HG3 := Aside0.mk hg3; have HW3 := Aside0.mk hw3; clear hg3 hw3))
  go_wp2
  go_end0
  exact ⟨rfl, (gb_drew (World.grownBy_alloc _ _ _)).trans HG3.out, HW3.out⟩
set_option maxRecDepth 100000 in
set_option maxHeartbeats 4000000 in
theorem putAtF (g i n : Nat) (x : Int) (bs : List Int) (w : World) (hw : W8 w g 5 [] bs) (hn : bs.length = n) (hi : i * 8 + 8 ≤ n) (hb : n ≤ 100000) (hx : OkF x) :
    Calls Tryz.prog 16 #[.slice (some ⟨g, 0, none⟩) n n, .int .i64 i, encF x] w (PutL w g bs (i * 8) (le x 8)) := by
  obtain ⟨p, hp⟩ : ∃ p, i * 8 = p := ⟨_, rfl⟩
  rw [hp] at hi ⊢
  have HP := Aside0.mk (fun (W : World) (hW : W8 W g 5 [] bs) => putOneF g p (n - p) x bs W hW (by omega) hx)
  have hcut := mid8 g n p 8 hi (by omega)
  have e1 : IntKind.i64.wrap ((i : Int) * 8) = (p : Int) := by rw [IntKind.wrap_i64]; omega
  have e2 : IntKind.i64.wrap ((p : Int) + 8) = (p : Int) + 8 := by rw [IntKind.wrap_i64]; omega
  have hp0 : (0 : Int) ≤ p := by omega
  have hpn : (p : Int) + 8 ≤ (n : Int) := by omega
  have HW := Aside0.mk hw
  clear hw hp hn hx
  go_enter Tryz.func16, Tryz.ntmps16
  go_wp2_with (first | (go_at_call 29; (with_reducible refine (size0F _).mono ?_); rintro e w1 ⟨rfl, hb1⟩; have HB1 := Aside0.mk hb1; have HW1 := Aside0.mk (show W8 w1 g 5 [] bs from (hb1.block g (block_lt HW.out)).trans HW.out); clear hb1) | (go_at_call 30; (refine (HP.out _ HW1.out).mono ?_); rintro e w3 ⟨rfl, hg3, hw3⟩; have HG3 := Aside0.mk hg3; have HW3 := Aside0.mk hw3; clear hg3 hw3))
  go_end0
  exact ⟨rfl, (gb_below (World.grownBy.refl _ _) HB1.out).trans HG3.out, HW3.out⟩
set_option maxRecDepth 100000 in
set_option maxHeartbeats 4000000 in
theorem getOneF (A : Option Addr) (c : Nat) (xs : List Int) (x : Int) (w : World) (h : ReadsOf (Value.int .u8) (0 : Int) w A 8 xs) (hxs : xs = le x 8) (hx : OkF x) :
    Calls Tryz.prog 108 #[.slice A 8 c] w fun e w' => e = .returned (encF x) ∧ Below w.heap.size w w' := by
  have ta86 := fun (v : Value) (W : World) => ta_yes (P := Tryz.prog) (t := 86) (xT := 20) v (by kernel_rfl) W
  have ta87 := fun (v : Value) (W : World) => ta_no (P := Tryz.prog) (t := 86) (a := 87) (xT := 20) v (.pointer none) (by kernel_rfl) (by kernel_rfl) (by decide) W
  have ta88 := fun (v : Value) (W : World) => ta_no (P := Tryz.prog) (t := 86) (a := 88) (xT := 20) v (.pointer none) (by kernel_rfl) (by kernel_rfl) (by decide) W
  have ta89 := fun (v : Value) (W : World) => ta_no (P := Tryz.prog) (t := 86) (a := 89) (xT := 20) v (.pointer none) (by kernel_rfl) (by kernel_rfl) (by decide) W
  have ta90 := fun (v : Value) (W : World) => ta_no (P := Tryz.prog) (t := 86) (a := 90) (xT := 20) v (.pointer none) (by kernel_rfl) (by kernel_rfl) (by decide) W
  have ta91 := fun (v : Value) (W : World) => ta_no (P := Tryz.prog) (t := 86) (a := 91) (xT := 20) v (.pointer none) (by kernel_rfl) (by kernel_rfl) (by decide) W
  have ta92 := fun (v : Value) (W : World) => ta_no (P := Tryz.prog) (t := 86) (a := 92) (xT := 20) v (.pointer none) (by kernel_rfl) (by kernel_rfl) (by decide) W
  have ta93 := fun (v : Value) (W : World) => ta_no (P := Tryz.prog) (t := 86) (a := 93) (xT := 20) v (.pointer none) (by kernel_rfl) (by kernel_rfl) (by decide) W
  have ta94 := fun (v : Value) (W : World) => ta_no (P := Tryz.prog) (t := 86) (a := 94) (xT := 20) v (.pointer none) (by kernel_rfl) (by kernel_rfl) (by decide) W
  have ta95 := fun (v : Value) (W : World) => ta_no (P := Tryz.prog) (t := 86) (a := 95) (xT := 20) v (.pointer none) (by kernel_rfl) (by kernel_rfl) (by decide) W
  have ta96 := fun (v : Value) (W : World) => ta_no (P := Tryz.prog) (t := 86) (a := 96) (xT := 20) v (.pointer none) (by kernel_rfl) (by kernel_rfl) (by decide) W
  have ta97 := fun (v : Value) (W : World) => ta_no (P := Tryz.prog) (t := 86) (a := 97) (xT := 20) v (.pointer none) (by kernel_rfl) (by kernel_rfl) (by decide) W
  have ta98 := fun (v : Value) (W : World) => ta_no (P := Tryz.prog) (t := 86) (a := 98) (xT := 20) v (.pointer none) (by kernel_rfl) (by kernel_rfl) (by decide) W
  have ta99 := fun (v : Value) (W : World) => ta_no (P := Tryz.prog) (t := 86) (a := 99) (xT := 20) v (.pointer none) (by kernel_rfl) (by kernel_rfl) (by decide) W
  have ta100 := fun (v : Value) (W : World) => ta_no (P := Tryz.prog) (t := 86) (a := 100) (xT := 20) v (.pointer none) (by kernel_rfl) (by kernel_rfl) (by decide) W
  have ta101 := fun (v : Value) (W : World) => ta_no (P := Tryz.prog) (t := 86) (a := 101) (xT := 20) v (.pointer none) (by kernel_rfl) (by kernel_rfl) (by decide) W
  have ta102 := fun (v : Value) (W : World) => ta_no (P := Tryz.prog) (t := 86) (a := 102) (xT := 20) v (.pointer none) (by kernel_rfl) (by kernel_rfl) (by decide) W
  have ta103 := fun (v : Value) (W : World) => ta_no (P := Tryz.prog) (t := 86) (a := 103) (xT := 20) v (.pointer none) (by kernel_rfl) (by kernel_rfl) (by decide) W
  have ta104 := fun (v : Value) (W : World) => ta_no (P := Tryz.prog) (t := 86) (a := 104) (xT := 20) v (.pointer none) (by kernel_rfl) (by kernel_rfl) (by decide) W
  have ta105 := fun (v : Value) (W : World) => ta_no (P := Tryz.prog) (t := 86) (a := 105) (xT := 20) v (.pointer none) (by kernel_rfl) (by kernel_rfl) (by decide) W
  have ta106 := fun (v : Value) (W : World) => ta_no (P := Tryz.prog) (t := 86) (a := 106) (xT := 20) v (.pointer none) (by kernel_rfl) (by kernel_rfl) (by decide) W
  have hfb := fun (n : Int) (W : World) => from64 n W
  have HH := Aside0.mk h
  have HX := Aside0.mk hx
  have HXS := Aside0.mk hxs
  clear h hx hxs
  show Calls Tryz.prog 108 #[.slice A 8 c] w fun e w' => e = .returned (.float .f64 x.toNat) ∧ Below w.heap.size w w'
  go_enter Tryz.func108, Tryz.ntmps108
  go_wp2_with (first | (go_at_call 117; refine (uint64_le A 8 c xs x _ (ReadsOf.below HH.out ((Below.refl _ _).alloc (Nat.le_refl _) _)) (Nat.le_refl _) (by rw [HXS.out]; exact List.take_of_length_le (by rw [le_len]; exact Nat.le_refl _)) HX.out.1 HX.out.2).mono ?_; rintro e w3 ⟨rfl, hb3⟩; have k3 : w3.heap[w.heap.size]? = some (.cells #[.float .f64 0] 28 (0, 0)) := (hb3.block _ (by simp)).trans (heap_alloc_new w _); have f0 : w3.cell? ⟨w.heap.size, 0, none⟩ = some (.float .f64 0) := blk_cell k3 0; have z0 := blk_frozen k3 0; have HB3 := Aside0.mk (show Below w.heap.size w w3 from ((Below.refl _ _).alloc (Nat.le_refl _) _).trans (hb3.mono (by simp))); clear hb3 k3))
  go_wp2
  have k5 : ((w3.setCell ⟨w.heap.size, 0, none⟩ (.float .f64 x.toNat)).setCell ⟨w.heap.size, 0, none⟩ (.float .f64 x.toNat)).cell? ⟨w.heap.size, 0, none⟩ = some (.float .f64 x.toNat) := cell_twice f0
  exact bodyPost_ret (v := .float .f64 x.toNat) (by simp [results, Tryz.results108, go_sem, k5]) rfl ⟨rfl, by first | exact HB3.out.setCell (p := ⟨w.heap.size, 0, none⟩) (Nat.le_refl _) _ | exact (HB3.out.setCell (p := ⟨w.heap.size, 0, none⟩) (Nat.le_refl _) _).setCell (p := ⟨w.heap.size, 0, none⟩) (Nat.le_refl _) _⟩

end Go.Proofs.YtmdmpdbnnegpiaaGreatDoor.Cmp
