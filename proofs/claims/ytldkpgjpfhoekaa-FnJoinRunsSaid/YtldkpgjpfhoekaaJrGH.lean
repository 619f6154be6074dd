/- What the package says of one type's bytes: how many, written, read, a list of them. -/
import Derived.Test.YtldkpgjpfhoekaaJrG0
namespace Go.Proofs.Ytldkpgjpfhoekaa.Join
open Go.RowKit Go.Proofs.YtldkpgjpfhoekaaW.PrintWords Go.Proofs.YtldkpgjpfhoekaaW.PrintLast Go.Proofs.YtldkpgjpfhoekaaW.PrintMore
set_option linter.unusedVariables false
set_option linter.unusedSimpArgs false

def OkH (x : Int) : Prop := -32768 ≤ x ∧ x < 32768
def encH (x : Int) : Value := .int .i16 x
theorem usH (x : Int) : 0 ≤ x % 65536 ∧ x % 65536 < 65536 := by omega
theorem cuH (x : Int) : IntKind.u16.wrap x = x % 65536 := by rw [IntKind.wrap_u16]
theorem csH (x : Int) (h : OkH x) : IntKind.i16.wrap (x % 65536) = x := by
  unfold OkH at h
  simp [IntKind.wrap, IntKind.bits, IntKind.signed]
  omega
set_option maxRecDepth 100000 in
theorem size0H (w : World) : Calls Try.prog 35 #[] w fun e w' => e = .returned (.int .i64 2) ∧ Below w.heap.size w w' := by
  have ta97 := fun (v : Value) (W : World) => ta_yes (P := Try.prog) (t := 97) (xT := 20) v (by kernel_rfl) W
  have ta98 := fun (v : Value) (W : World) => ta_no (P := Try.prog) (t := 97) (a := 98) (xT := 20) v (.pointer none) (by kernel_rfl) (by kernel_rfl) (by decide) W
  have ta99 := fun (v : Value) (W : World) => ta_no (P := Try.prog) (t := 97) (a := 99) (xT := 20) v (.pointer none) (by kernel_rfl) (by kernel_rfl) (by decide) W
  have ta100 := fun (v : Value) (W : World) => ta_no (P := Try.prog) (t := 97) (a := 100) (xT := 20) v (.pointer none) (by kernel_rfl) (by kernel_rfl) (by decide) W
  have ta101 := fun (v : Value) (W : World) => ta_no (P := Try.prog) (t := 97) (a := 101) (xT := 20) v (.pointer none) (by kernel_rfl) (by kernel_rfl) (by decide) W
  have ta102 := fun (v : Value) (W : World) => ta_no (P := Try.prog) (t := 97) (a := 102) (xT := 20) v (.pointer none) (by kernel_rfl) (by kernel_rfl) (by decide) W
  have ta103 := fun (v : Value) (W : World) => ta_no (P := Try.prog) (t := 97) (a := 103) (xT := 20) v (.pointer none) (by kernel_rfl) (by kernel_rfl) (by decide) W
  have ta104 := fun (v : Value) (W : World) => ta_no (P := Try.prog) (t := 97) (a := 104) (xT := 20) v (.pointer none) (by kernel_rfl) (by kernel_rfl) (by decide) W
  have ta105 := fun (v : Value) (W : World) => ta_no (P := Try.prog) (t := 97) (a := 105) (xT := 20) v (.pointer none) (by kernel_rfl) (by kernel_rfl) (by decide) W
  have ta106 := fun (v : Value) (W : World) => ta_no (P := Try.prog) (t := 97) (a := 106) (xT := 20) v (.pointer none) (by kernel_rfl) (by kernel_rfl) (by decide) W
  have ta107 := fun (v : Value) (W : World) => ta_no (P := Try.prog) (t := 97) (a := 107) (xT := 20) v (.pointer none) (by kernel_rfl) (by kernel_rfl) (by decide) W
  have ta108 := fun (v : Value) (W : World) => ta_no (P := Try.prog) (t := 97) (a := 108) (xT := 20) v (.pointer none) (by kernel_rfl) (by kernel_rfl) (by decide) W
  have ta89 := fun (v : Value) (W : World) => ta_no (P := Try.prog) (t := 97) (a := 89) (xT := 20) v (.pointer none) (by kernel_rfl) (by kernel_rfl) (by decide) W
  have ta109 := fun (v : Value) (W : World) => ta_no (P := Try.prog) (t := 97) (a := 109) (xT := 20) v (.pointer none) (by kernel_rfl) (by kernel_rfl) (by decide) W
  have ta110 := fun (v : Value) (W : World) => ta_no (P := Try.prog) (t := 97) (a := 110) (xT := 20) v (.pointer none) (by kernel_rfl) (by kernel_rfl) (by decide) W
  have ta111 := fun (v : Value) (W : World) => ta_no (P := Try.prog) (t := 97) (a := 111) (xT := 20) v (.pointer none) (by kernel_rfl) (by kernel_rfl) (by decide) W
  have ta112 := fun (v : Value) (W : World) => ta_no (P := Try.prog) (t := 97) (a := 112) (xT := 20) v (.pointer none) (by kernel_rfl) (by kernel_rfl) (by decide) W
  have ta113 := fun (v : Value) (W : World) => ta_no (P := Try.prog) (t := 97) (a := 113) (xT := 20) v (.pointer none) (by kernel_rfl) (by kernel_rfl) (by decide) W
  have ta114 := fun (v : Value) (W : World) => ta_no (P := Try.prog) (t := 97) (a := 114) (xT := 20) v (.pointer none) (by kernel_rfl) (by kernel_rfl) (by decide) W
  have ta115 := fun (v : Value) (W : World) => ta_no (P := Try.prog) (t := 97) (a := 115) (xT := 20) v (.pointer none) (by kernel_rfl) (by kernel_rfl) (by decide) W
  have ta116 := fun (v : Value) (W : World) => ta_no (P := Try.prog) (t := 97) (a := 116) (xT := 20) v (.pointer none) (by kernel_rfl) (by kernel_rfl) (by decide) W
  have ta149 := fun (v : Value) (W : World) => ta_no (P := Try.prog) (t := 97) (a := 149) (xT := 20) v (.pointer none) (by kernel_rfl) (by kernel_rfl) (by decide) W
  have ta152 := fun (v : Value) (W : World) => ta_no (P := Try.prog) (t := 97) (a := 152) (xT := 20) v (.pointer none) (by kernel_rfl) (by kernel_rfl) (by decide) W
  have ta117 := fun (v : Value) (W : World) => ta_no (P := Try.prog) (t := 97) (a := 117) (xT := 20) v (.pointer none) (by kernel_rfl) (by kernel_rfl) (by decide) W
  have ta160 := fun (v : Value) (W : World) => ta_no (P := Try.prog) (t := 97) (a := 160) (xT := 20) v (.pointer none) (by kernel_rfl) (by kernel_rfl) (by decide) W
  go_enter Try.func35, Try.ntmps35
  go_wp2
  go_ret
  exact ⟨rfl, by go_grown⟩
set_option maxRecDepth 100000 in
set_option maxHeartbeats 4000000 in
theorem putOneH (g o c : Nat) (x : Int) (bs : List Int) (w : World) (hw : W8 w g 5 [] bs) (hn : o + 2 ≤ bs.length) (hx : OkH x) :
    Calls Try.prog 45 #[.slice (some ⟨g, o, none⟩) 2 c, encH x] w (PutL w g bs o (le (x % 65536) 2)) := by
  have ta97 := fun (v : Value) (W : World) => ta_yes (P := Try.prog) (t := 97) (xT := 20) v (by kernel_rfl) W
  have ta98 := fun (v : Value) (W : World) => ta_no (P := Try.prog) (t := 97) (a := 98) (xT := 20) v (.pointer none) (by kernel_rfl) (by kernel_rfl) (by decide) W
  have ta99 := fun (v : Value) (W : World) => ta_no (P := Try.prog) (t := 97) (a := 99) (xT := 20) v (.pointer none) (by kernel_rfl) (by kernel_rfl) (by decide) W
  have ta100 := fun (v : Value) (W : World) => ta_no (P := Try.prog) (t := 97) (a := 100) (xT := 20) v (.pointer none) (by kernel_rfl) (by kernel_rfl) (by decide) W
  have ta101 := fun (v : Value) (W : World) => ta_no (P := Try.prog) (t := 97) (a := 101) (xT := 20) v (.pointer none) (by kernel_rfl) (by kernel_rfl) (by decide) W
  have ta102 := fun (v : Value) (W : World) => ta_no (P := Try.prog) (t := 97) (a := 102) (xT := 20) v (.pointer none) (by kernel_rfl) (by kernel_rfl) (by decide) W
  have ta103 := fun (v : Value) (W : World) => ta_no (P := Try.prog) (t := 97) (a := 103) (xT := 20) v (.pointer none) (by kernel_rfl) (by kernel_rfl) (by decide) W
  have ta104 := fun (v : Value) (W : World) => ta_no (P := Try.prog) (t := 97) (a := 104) (xT := 20) v (.pointer none) (by kernel_rfl) (by kernel_rfl) (by decide) W
  have ta105 := fun (v : Value) (W : World) => ta_no (P := Try.prog) (t := 97) (a := 105) (xT := 20) v (.pointer none) (by kernel_rfl) (by kernel_rfl) (by decide) W
  have ta106 := fun (v : Value) (W : World) => ta_no (P := Try.prog) (t := 97) (a := 106) (xT := 20) v (.pointer none) (by kernel_rfl) (by kernel_rfl) (by decide) W
  have ta107 := fun (v : Value) (W : World) => ta_no (P := Try.prog) (t := 97) (a := 107) (xT := 20) v (.pointer none) (by kernel_rfl) (by kernel_rfl) (by decide) W
  have ta108 := fun (v : Value) (W : World) => ta_no (P := Try.prog) (t := 97) (a := 108) (xT := 20) v (.pointer none) (by kernel_rfl) (by kernel_rfl) (by decide) W
  have ta89 := fun (v : Value) (W : World) => ta_no (P := Try.prog) (t := 97) (a := 89) (xT := 20) v (.pointer none) (by kernel_rfl) (by kernel_rfl) (by decide) W
  have ta109 := fun (v : Value) (W : World) => ta_no (P := Try.prog) (t := 97) (a := 109) (xT := 20) v (.pointer none) (by kernel_rfl) (by kernel_rfl) (by decide) W
  have ta110 := fun (v : Value) (W : World) => ta_no (P := Try.prog) (t := 97) (a := 110) (xT := 20) v (.pointer none) (by kernel_rfl) (by kernel_rfl) (by decide) W
  have ta111 := fun (v : Value) (W : World) => ta_no (P := Try.prog) (t := 97) (a := 111) (xT := 20) v (.pointer none) (by kernel_rfl) (by kernel_rfl) (by decide) W
  have ta112 := fun (v : Value) (W : World) => ta_no (P := Try.prog) (t := 97) (a := 112) (xT := 20) v (.pointer none) (by kernel_rfl) (by kernel_rfl) (by decide) W
  have ta113 := fun (v : Value) (W : World) => ta_no (P := Try.prog) (t := 97) (a := 113) (xT := 20) v (.pointer none) (by kernel_rfl) (by kernel_rfl) (by decide) W
  have ta114 := fun (v : Value) (W : World) => ta_no (P := Try.prog) (t := 97) (a := 114) (xT := 20) v (.pointer none) (by kernel_rfl) (by kernel_rfl) (by decide) W
  have ta115 := fun (v : Value) (W : World) => ta_no (P := Try.prog) (t := 97) (a := 115) (xT := 20) v (.pointer none) (by kernel_rfl) (by kernel_rfl) (by decide) W
  have ta116 := fun (v : Value) (W : World) => ta_no (P := Try.prog) (t := 97) (a := 116) (xT := 20) v (.pointer none) (by kernel_rfl) (by kernel_rfl) (by decide) W
  have ta149 := fun (v : Value) (W : World) => ta_no (P := Try.prog) (t := 97) (a := 149) (xT := 20) v (.pointer none) (by kernel_rfl) (by kernel_rfl) (by decide) W
  have ta152 := fun (v : Value) (W : World) => ta_no (P := Try.prog) (t := 97) (a := 152) (xT := 20) v (.pointer none) (by kernel_rfl) (by kernel_rfl) (by decide) W
  have ta117 := fun (v : Value) (W : World) => ta_no (P := Try.prog) (t := 97) (a := 117) (xT := 20) v (.pointer none) (by kernel_rfl) (by kernel_rfl) (by decide) W
  have ta160 := fun (v : Value) (W : World) => ta_no (P := Try.prog) (t := 97) (a := 160) (xT := 20) v (.pointer none) (by kernel_rfl) (by kernel_rfl) (by decide) W
  have HP := Aside0.mk (fun (W : World) (hW : W8 W g 5 [] bs) => putU16 g o c (x % 65536) bs W hW hn (usH x).1 (usH x).2)
  have HW := Aside0.mk hw
  have hgl : g < w.heap.size := block_lt hw
  have hcv := cuH x
  have HX := Aside0.mk hx
  clear hw hx
  show Calls Try.prog 45 #[.slice (some ⟨g, o, none⟩) 2 c, .int .i16 x] w _
  go_enter Try.func45, Try.ntmps45
  go_wp2
  have f0 : (w.alloc (.cells #[.int .i16 x] 63)).cell? ⟨w.heap.size, 0, none⟩ = some (.int .i16 x) := blk_cell (heap_alloc_new w _) 0
  have HW1 := Aside0.mk (W8.alloc HW.out (.cells #[.int .i16 x] 63))
  go_region_held3 (fun w' => w'.cell? ⟨w.heap.size, 0, none⟩ = some (.int .i16 x)) (first | exact f0 | exact e3 | (go_keep; done)) (first | (go_at_call 58; refine (HP.out (World.drew (w.alloc (.cells #[.int .i16 x] 63))) HW1.out).mono ?_; rintro e w3 ⟨rfl, hg3, hw3⟩; have e3 := gb_cell hg3 (Nat.ne_of_gt hgl) (show (World.drew (w.alloc (.cells #[.int .i16 x] 63))).cell? ⟨w.heap.size, 0, none⟩ = some (.int .i16 x) from f0); have HG3 := Aside0.mk hg3; have HW3 := Aside0.mk hw3; clear hg3 hw3))
  go_wp2
  go_end0
  exact ⟨rfl, (gb_drew (World.grownBy_alloc _ _ _)).trans HG3.out, HW3.out⟩
set_option maxRecDepth 100000 in
set_option maxHeartbeats 4000000 in
theorem putAtH (g i n : Nat) (x : Int) (bs : List Int) (w : World) (hw : W8 w g 5 [] bs) (hn : bs.length = n) (hi : i * 2 + 2 ≤ n) (hb : n ≤ 100000) (hx : OkH x) :
    Calls Try.prog 37 #[.slice (some ⟨g, 0, none⟩) n n, .int .i64 i, encH x] w (PutL w g bs (i * 2) (le (x % 65536) 2)) := by
  obtain ⟨p, hp⟩ : ∃ p, i * 2 = p := ⟨_, rfl⟩
  rw [hp] at hi ⊢
  have HP := Aside0.mk (fun (W : World) (hW : W8 W g 5 [] bs) => putOneH g p (n - p) x bs W hW (by omega) hx)
  have hcut := mid8 g n p 2 hi (by omega)
  have e1 : IntKind.i64.wrap ((i : Int) * 2) = (p : Int) := by rw [IntKind.wrap_i64]; omega
  have e2 : IntKind.i64.wrap ((p : Int) + 2) = (p : Int) + 2 := by rw [IntKind.wrap_i64]; omega
  have hp0 : (0 : Int) ≤ p := by omega
  have hpn : (p : Int) + 2 ≤ (n : Int) := by omega
  have HW := Aside0.mk hw
  clear hw hp hn hx
  go_enter Try.func37, Try.ntmps37
  go_wp2_with (first | (go_at_call 35; (with_reducible refine (size0H _).mono ?_); rintro e w1 ⟨rfl, hb1⟩; have HB1 := Aside0.mk hb1; have HW1 := Aside0.mk (show W8 w1 g 5 [] bs from (hb1.block g (block_lt HW.out)).trans HW.out); clear hb1) | (go_at_call 45; (refine (HP.out _ HW1.out).mono ?_); rintro e w3 ⟨rfl, hg3, hw3⟩; have HG3 := Aside0.mk hg3; have HW3 := Aside0.mk hw3; clear hg3 hw3))
  go_end0
  exact ⟨rfl, (gb_below (World.grownBy.refl _ _) HB1.out).trans HG3.out, HW3.out⟩
set_option maxRecDepth 100000 in
set_option maxHeartbeats 4000000 in
theorem getOneH (A : Option Addr) (c : Nat) (xs : List Int) (x : Int) (w : World) (h : ReadsOf (Value.int .u8) (0 : Int) w A 2 xs) (hxs : xs = le (x % 65536) 2) (hx : OkH x) :
    Calls Try.prog 44 #[.slice A 2 c] w fun e w' => e = .returned (encH x) ∧ Below w.heap.size w w' := by
  have ta97 := fun (v : Value) (W : World) => ta_yes (P := Try.prog) (t := 97) (xT := 20) v (by kernel_rfl) W
  have ta98 := fun (v : Value) (W : World) => ta_no (P := Try.prog) (t := 97) (a := 98) (xT := 20) v (.pointer none) (by kernel_rfl) (by kernel_rfl) (by decide) W
  have ta99 := fun (v : Value) (W : World) => ta_no (P := Try.prog) (t := 97) (a := 99) (xT := 20) v (.pointer none) (by kernel_rfl) (by kernel_rfl) (by decide) W
  have ta100 := fun (v : Value) (W : World) => ta_no (P := Try.prog) (t := 97) (a := 100) (xT := 20) v (.pointer none) (by kernel_rfl) (by kernel_rfl) (by decide) W
  have ta101 := fun (v : Value) (W : World) => ta_no (P := Try.prog) (t := 97) (a := 101) (xT := 20) v (.pointer none) (by kernel_rfl) (by kernel_rfl) (by decide) W
  have ta102 := fun (v : Value) (W : World) => ta_no (P := Try.prog) (t := 97) (a := 102) (xT := 20) v (.pointer none) (by kernel_rfl) (by kernel_rfl) (by decide) W
  have ta103 := fun (v : Value) (W : World) => ta_no (P := Try.prog) (t := 97) (a := 103) (xT := 20) v (.pointer none) (by kernel_rfl) (by kernel_rfl) (by decide) W
  have ta104 := fun (v : Value) (W : World) => ta_no (P := Try.prog) (t := 97) (a := 104) (xT := 20) v (.pointer none) (by kernel_rfl) (by kernel_rfl) (by decide) W
  have ta105 := fun (v : Value) (W : World) => ta_no (P := Try.prog) (t := 97) (a := 105) (xT := 20) v (.pointer none) (by kernel_rfl) (by kernel_rfl) (by decide) W
  have ta106 := fun (v : Value) (W : World) => ta_no (P := Try.prog) (t := 97) (a := 106) (xT := 20) v (.pointer none) (by kernel_rfl) (by kernel_rfl) (by decide) W
  have ta107 := fun (v : Value) (W : World) => ta_no (P := Try.prog) (t := 97) (a := 107) (xT := 20) v (.pointer none) (by kernel_rfl) (by kernel_rfl) (by decide) W
  have ta108 := fun (v : Value) (W : World) => ta_no (P := Try.prog) (t := 97) (a := 108) (xT := 20) v (.pointer none) (by kernel_rfl) (by kernel_rfl) (by decide) W
  have ta89 := fun (v : Value) (W : World) => ta_no (P := Try.prog) (t := 97) (a := 89) (xT := 20) v (.pointer none) (by kernel_rfl) (by kernel_rfl) (by decide) W
  have ta109 := fun (v : Value) (W : World) => ta_no (P := Try.prog) (t := 97) (a := 109) (xT := 20) v (.pointer none) (by kernel_rfl) (by kernel_rfl) (by decide) W
  have ta110 := fun (v : Value) (W : World) => ta_no (P := Try.prog) (t := 97) (a := 110) (xT := 20) v (.pointer none) (by kernel_rfl) (by kernel_rfl) (by decide) W
  have ta111 := fun (v : Value) (W : World) => ta_no (P := Try.prog) (t := 97) (a := 111) (xT := 20) v (.pointer none) (by kernel_rfl) (by kernel_rfl) (by decide) W
  have ta112 := fun (v : Value) (W : World) => ta_no (P := Try.prog) (t := 97) (a := 112) (xT := 20) v (.pointer none) (by kernel_rfl) (by kernel_rfl) (by decide) W
  have ta113 := fun (v : Value) (W : World) => ta_no (P := Try.prog) (t := 97) (a := 113) (xT := 20) v (.pointer none) (by kernel_rfl) (by kernel_rfl) (by decide) W
  have ta114 := fun (v : Value) (W : World) => ta_no (P := Try.prog) (t := 97) (a := 114) (xT := 20) v (.pointer none) (by kernel_rfl) (by kernel_rfl) (by decide) W
  have ta115 := fun (v : Value) (W : World) => ta_no (P := Try.prog) (t := 97) (a := 115) (xT := 20) v (.pointer none) (by kernel_rfl) (by kernel_rfl) (by decide) W
  have ta116 := fun (v : Value) (W : World) => ta_no (P := Try.prog) (t := 97) (a := 116) (xT := 20) v (.pointer none) (by kernel_rfl) (by kernel_rfl) (by decide) W
  have ta149 := fun (v : Value) (W : World) => ta_no (P := Try.prog) (t := 97) (a := 149) (xT := 20) v (.pointer none) (by kernel_rfl) (by kernel_rfl) (by decide) W
  have ta152 := fun (v : Value) (W : World) => ta_no (P := Try.prog) (t := 97) (a := 152) (xT := 20) v (.pointer none) (by kernel_rfl) (by kernel_rfl) (by decide) W
  have ta117 := fun (v : Value) (W : World) => ta_no (P := Try.prog) (t := 97) (a := 117) (xT := 20) v (.pointer none) (by kernel_rfl) (by kernel_rfl) (by decide) W
  have ta160 := fun (v : Value) (W : World) => ta_no (P := Try.prog) (t := 97) (a := 160) (xT := 20) v (.pointer none) (by kernel_rfl) (by kernel_rfl) (by decide) W
  have hcv := csH x hx
  have HH := Aside0.mk h
  have HX := Aside0.mk hx
  have HXS := Aside0.mk hxs
  clear h hx hxs
  show Calls Try.prog 44 #[.slice A 2 c] w fun e w' => e = .returned (.int .i16 x) ∧ Below w.heap.size w w'
  go_enter Try.func44, Try.ntmps44
  go_wp2_with (first | (go_at_call 50; refine (uint16_le A 2 c xs (x % 65536) _ (ReadsOf.below HH.out ((Below.refl _ _).alloc (Nat.le_refl _) _)) (Nat.le_refl _) (by rw [HXS.out]; exact List.take_of_length_le (by rw [le_len]; exact Nat.le_refl _)) (usH x).1 (usH x).2).mono ?_; rintro e w3 ⟨rfl, hb3⟩; have k3 : w3.heap[w.heap.size]? = some (.cells #[.int .i16 0] 63 (0, 0)) := (hb3.block _ (by simp)).trans (heap_alloc_new w _); have f0 : w3.cell? ⟨w.heap.size, 0, none⟩ = some (.int .i16 0) := blk_cell k3 0; have z0 := blk_frozen k3 0; have HB3 := Aside0.mk (show Below w.heap.size w w3 from ((Below.refl _ _).alloc (Nat.le_refl _) _).trans (hb3.mono (by simp))); clear hb3 k3))
  go_wp2
  have k5 : ((w3.setCell ⟨w.heap.size, 0, none⟩ (.int .i16 x)).setCell ⟨w.heap.size, 0, none⟩ (.int .i16 x)).cell? ⟨w.heap.size, 0, none⟩ = some (.int .i16 x) := cell_twice f0
  exact bodyPost_ret (v := .int .i16 x) (by simp [results, Try.results44, go_sem, k5]) rfl ⟨rfl, by first | exact HB3.out.setCell (p := ⟨w.heap.size, 0, none⟩) (Nat.le_refl _) _ | exact (HB3.out.setCell (p := ⟨w.heap.size, 0, none⟩) (Nat.le_refl _) _).setCell (p := ⟨w.heap.size, 0, none⟩) (Nat.le_refl _) _⟩

end Go.Proofs.Ytldkpgjpfhoekaa.Join
