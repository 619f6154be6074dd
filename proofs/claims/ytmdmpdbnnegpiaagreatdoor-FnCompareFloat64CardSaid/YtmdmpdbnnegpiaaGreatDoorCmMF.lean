/- From a comparison's number to its kernel. -/
import Derived.Test.YtmdmpdbnnegpiaaGreatDoorCmLSF
import Derived.Test.YtmdmpdbnnegpiaaGreatDoorCmLAF
import Derived.Test.YtmdmpdbnnegpiaaGreatDoorCmC2
import Derived.Conc.MuLone
namespace Go.Proofs.YtmdmpdbnnegpiaaGreatDoor.Cmp
open Go.RowKit Go.Proofs.YtmdmpdbnnegpiaaGreatDoorW.PrintWords Go.Proofs.YtmdmpdbnnegpiaaGreatDoorW.PrintLast Go.Proofs.YtmdmpdbnnegpiaaGreatDoorW.PrintMore
set_option linter.unusedVariables false
set_option linter.unusedSimpArgs false

def fnV (N : Nat) : Value := .func (.func N) #[] #[]
/-- A function with what it has caught, boxed. -/
def Boxes (k N : Nat) (w : World) (e : Ending) (w' : World) : Prop := ∃ b, w.heap.size ≤ b ∧ e = .returned (.func (.func k) #[] #[.pointer (some ⟨b, 0, none⟩)]) ∧ w'.cell? ⟨b, 0, none⟩ = some (.func (.func N) #[] #[]) ∧ Below w.heap.size w w'
set_option maxRecDepth 100000 in
theorem prim1F (N : Nat) (w : World) : Calls Tryz.prog 52 #[.func (.func N) #[] #[]] w (Boxes 88 N w) := by
  go_enter Tryz.func52, Tryz.ntmps52
  go_wp2
  go_ret
  exact ⟨w.heap.size, Nat.le_refl _, rfl, blk_cell (heap_alloc_new w _) 0, by go_grown⟩
set_option maxRecDepth 100000 in
theorem prim2F (N : Nat) (w : World) : Calls Tryz.prog 53 #[.func (.func N) #[] #[]] w (Boxes 92 N w) := by
  go_enter Tryz.func53, Tryz.ntmps53
  go_wp2
  go_ret
  exact ⟨w.heap.size, Nat.le_refl _, rfl, blk_cell (heap_alloc_new w _) 0, by go_grown⟩
set_option maxRecDepth 100000 in
theorem prim3F (N : Nat) (w : World) : Calls Tryz.prog 54 #[.func (.func N) #[] #[]] w (Boxes 94 N w) := by
  go_enter Tryz.func54, Tryz.ntmps54
  go_wp2
  go_ret
  exact ⟨w.heap.size, Nat.le_refl _, rfl, blk_cell (heap_alloc_new w _) 0, by go_grown⟩
/-- A struct of the call's own. -/
def Struct1 (T : TypeId) (cs : List Value) (w : World) (e : Ending) (w' : World) : Prop := ∃ b, w.heap.size ≤ b ∧ e = .returned (.pointer (some ⟨b, 0, none⟩)) ∧ w'.heap[b]? = some (.cells cs.toArray T (0, 0)) ∧ Below w.heap.size w w'
set_option maxRecDepth 100000 in
theorem getOp0F (w : World) : Calls Tryz.prog 33 #[.int .i8 0] w (Struct1 150 [.func (.func 55) #[] #[], .func (.func 56) #[] #[], .func (.func 57) #[] #[]] w) := by
  go_enter Tryz.func33, Tryz.ntmps33
  go_wp2
  go_ret
  exact ⟨w.heap.size, Nat.le_refl _, rfl, heap_alloc_new w _, by go_grown⟩
set_option maxRecDepth 100000 in
theorem getOp1F (w : World) : Calls Tryz.prog 33 #[.int .i8 1] w (Struct1 150 [.func (.func 58) #[] #[], .func (.func 59) #[] #[], .func (.func 60) #[] #[]] w) := by
  go_enter Tryz.func33, Tryz.ntmps33
  go_wp2
  go_ret
  exact ⟨w.heap.size, Nat.le_refl _, rfl, heap_alloc_new w _, by go_grown⟩
set_option maxRecDepth 100000 in
theorem getOp2F (w : World) : Calls Tryz.prog 33 #[.int .i8 2] w (Struct1 150 [.func (.func 61) #[] #[], .func (.func 62) #[] #[], .func (.func 63) #[] #[]] w) := by
  go_enter Tryz.func33, Tryz.ntmps33
  go_wp2
  go_ret
  exact ⟨w.heap.size, Nat.le_refl _, rfl, heap_alloc_new w _, by go_grown⟩
set_option maxRecDepth 100000 in
theorem getOp3F (w : World) : Calls Tryz.prog 33 #[.int .i8 3] w (Struct1 150 [.func (.func 64) #[] #[], .func (.func 65) #[] #[], .func (.func 66) #[] #[]] w) := by
  go_enter Tryz.func33, Tryz.ntmps33
  go_wp2
  go_ret
  exact ⟨w.heap.size, Nat.le_refl _, rfl, heap_alloc_new w _, by go_grown⟩
def fnB (k b : Nat) : Value := .func (.func k) #[] #[.pointer (some ⟨b, 0, none⟩)]
def Kernels (k1 k2 k3 N1 N2 N3 : Nat) (w : World) (e : Ending) (w' : World) : Prop :=
  ∃ b b1 b2 b3, e = .returned (.pointer (some ⟨b, 0, none⟩)) ∧ w.heap.size ≤ b1 ∧ w.heap.size ≤ b2 ∧ w.heap.size ≤ b3 ∧ w'.heap[b]? = some (.cells #[.func (.func k1) #[] #[.pointer (some ⟨b1, 0, none⟩)], .func (.func k3) #[] #[.pointer (some ⟨b3, 0, none⟩)], .func (.func k2) #[] #[.pointer (some ⟨b2, 0, none⟩)]] 141 (0, 0)) ∧
    w'.cell? ⟨b1, 0, none⟩ = some (.func (.func N1) #[] #[]) ∧ w'.cell? ⟨b2, 0, none⟩ = some (.func (.func N2) #[] #[]) ∧ w'.cell? ⟨b3, 0, none⟩ = some (.func (.func N3) #[] #[]) ∧ Below w.heap.size w w'
set_option maxRecDepth 100000 in
set_option maxHeartbeats 4000000 in
theorem genKF (g N1 N2 N3 : Nat) (w : World) (h : w.heap[g]? = some (.cells #[.func (.func N1) #[] #[], .func (.func N2) #[] #[], .func (.func N3) #[] #[]] 150 (0, 0))) :
    Calls Tryz.prog 32 #[.pointer (some ⟨g, 0, none⟩)] w (Kernels 88 92 94 N1 N2 N3 w) := by
  have c0 : w.cell? ⟨g, 0, none⟩ = some (.func (.func N1) #[] #[]) := blk_cell h 0
  have c1 : w.cell? ⟨g, 1, none⟩ = some (.func (.func N2) #[] #[]) := blk_cell h 1
  have c2 : w.cell? ⟨g, 2, none⟩ = some (.func (.func N3) #[] #[]) := blk_cell h 2
  have hg := block_lt h
  have H0 := Aside0.mk h
  clear h
  go_enter Tryz.func32, Tryz.ntmps32
  go_wp2_with fail
  have P1 := prim1F N1
  have P2 := prim2F N2
  have P3 := prim3F N3
  have HP := Aside0.mk (And.intro P1 (And.intro P2 P3))
  clear P1 P2 P3
  go_region_held3 (fun w' => w'.cell? ⟨g, 0, none⟩ = some (.func (.func N1) #[] #[]) ∧ w'.cell? ⟨g, 1, none⟩ = some (.func (.func N2) #[] #[]) ∧ w'.cell? ⟨g, 2, none⟩ = some (.func (.func N3) #[] #[])) (first | exact ⟨c0, c1, c2⟩ | exact ⟨d0, d1, d2⟩ | exact ⟨e0, e1, e2⟩ | exact ⟨f0, f1, f2⟩ | (go_keep; done)) (first
    | (go_at_call 52; refine (HP.out.1 _).mono ?_; rintro e w1 ⟨b1, hb1, rfl, hc1, hb⟩; have HB1 := Aside0.mk (show Below w.heap.size w w1 by first | exact hb | exact below_undrew hb); have hk := (HB1.out.block _ hg).trans H0.out; have d0 : w1.cell? ⟨g, 0, none⟩ = some (.func (.func N1) #[] #[]) := blk_cell hk 0; have d1 : w1.cell? ⟨g, 1, none⟩ = some (.func (.func N2) #[] #[]) := blk_cell hk 1; have d2 : w1.cell? ⟨g, 2, none⟩ = some (.func (.func N3) #[] #[]) := blk_cell hk 2; have HC1 := Aside0.mk hc1; have HH1 := Aside0.mk hb1; clear hb hk hc1 hb1)
    | (go_at_call 53; refine (HP.out.2.1 _).mono ?_; rintro e w2 ⟨b2, hb2, rfl, hc2, hb⟩; have HB12 := Aside0.mk (show Below w1.heap.size w1 w2 by first | exact hb | exact below_undrew hb); have HB2 := Aside0.mk (HB1.out.trans (HB12.out.mono HB1.out.size)); have hk := (HB2.out.block _ hg).trans H0.out; have e0 : w2.cell? ⟨g, 0, none⟩ = some (.func (.func N1) #[] #[]) := blk_cell hk 0; have e1 : w2.cell? ⟨g, 1, none⟩ = some (.func (.func N2) #[] #[]) := blk_cell hk 1; have e2 : w2.cell? ⟨g, 2, none⟩ = some (.func (.func N3) #[] #[]) := blk_cell hk 2; have HC2 := Aside0.mk hc2; have HH2 := Aside0.mk (Nat.le_trans HB1.out.size (show w1.heap.size ≤ b2 from hb2)); clear hb hk hc2 hb2)
    | (go_at_call 54; refine (HP.out.2.2 _).mono ?_; rintro e w3 ⟨b3, hb3, rfl, hc3, hb⟩; have HB23 := Aside0.mk (show Below w2.heap.size w2 w3 by first | exact hb | exact below_undrew hb); have HB3 := Aside0.mk (HB2.out.trans (HB23.out.mono HB2.out.size)); have hk := (HB3.out.block _ hg).trans H0.out; have f0 : w3.cell? ⟨g, 0, none⟩ = some (.func (.func N1) #[] #[]) := blk_cell hk 0; have f1 : w3.cell? ⟨g, 1, none⟩ = some (.func (.func N2) #[] #[]) := blk_cell hk 1; have f2 : w3.cell? ⟨g, 2, none⟩ = some (.func (.func N3) #[] #[]) := blk_cell hk 2; have HC3 := Aside0.mk hc3; have HH3 := Aside0.mk (Nat.le_trans HB2.out.size (show w2.heap.size ≤ b3 from hb3)); clear hb hk hc3 hb3))
  go_wp2_with fail
  go_ret
  have hlt1 := cell_lt HC1.out
  have hlt2 := cell_lt HC2.out
  have hlt3 := cell_lt HC3.out
  have hs12 := HB12.out.size
  have hs23 := HB23.out.size
  have k1 := (HB23.out.cell (p := ⟨b1, 0, none⟩) (Nat.lt_of_lt_of_le hlt1 hs12)).trans ((HB12.out.cell (p := ⟨b1, 0, none⟩) hlt1).trans HC1.out)
  have k2 := (HB23.out.cell (p := ⟨b2, 0, none⟩) hlt2).trans HC2.out
  have ka := fun (p : Addr) (o : Obj) (h : p.block < w3.heap.size) => ((Below.refl w3.heap.size w3).alloc (Nat.le_refl _) o).cell (p := p) h
  exact ⟨w3.heap.size, b1, b2, b3, rfl, HH1.out, HH2.out, HH3.out, heap_alloc_new w3 _, (ka ⟨b1, 0, none⟩ _ (Nat.lt_of_lt_of_le hlt1 (Nat.le_trans hs12 hs23))).trans k1, (ka ⟨b2, 0, none⟩ _ (Nat.lt_of_lt_of_le hlt2 hs23)).trans k2, (ka ⟨b3, 0, none⟩ _ hlt3).trans HC3.out, HB3.out.alloc HB3.out.size _⟩
set_option maxRecDepth 100000 in
theorem kernelOfF0 (b : Nat) (v0 v1 v2 : Value) (w : World) (h : w.heap[b]? = some (.cells #[v0, v1, v2] 141 (0, 0))) : Calls Tryz.prog 31 #[.int .i64 0, .pointer (some ⟨b, 0, none⟩)] w (fun e w' => e = .returned v0 ∧ Below w.heap.size w w') := by
  have c0 : w.cell? ⟨b, 0, none⟩ = some v0 := blk_cell h 0
  have c1 : w.cell? ⟨b, 1, none⟩ = some v1 := blk_cell h 1
  have c2 : w.cell? ⟨b, 2, none⟩ = some v2 := blk_cell h 2
  clear h
  go_enter Tryz.func31, Tryz.ntmps31
  go_wp2
  go_ret
  exact ⟨rfl, by go_grown⟩
set_option maxRecDepth 100000 in
theorem kernelOfF1 (b : Nat) (v0 v1 v2 : Value) (w : World) (h : w.heap[b]? = some (.cells #[v0, v1, v2] 141 (0, 0))) : Calls Tryz.prog 31 #[.int .i64 1, .pointer (some ⟨b, 0, none⟩)] w (fun e w' => e = .returned v2 ∧ Below w.heap.size w w') := by
  have c0 : w.cell? ⟨b, 0, none⟩ = some v0 := blk_cell h 0
  have c1 : w.cell? ⟨b, 1, none⟩ = some v1 := blk_cell h 1
  have c2 : w.cell? ⟨b, 2, none⟩ = some v2 := blk_cell h 2
  clear h
  go_enter Tryz.func31, Tryz.ntmps31
  go_wp2
  go_ret
  exact ⟨rfl, by go_grown⟩
set_option maxRecDepth 100000 in
theorem kernelOfF2 (b : Nat) (v0 v1 v2 : Value) (w : World) (h : w.heap[b]? = some (.cells #[v0, v1, v2] 141 (0, 0))) : Calls Tryz.prog 31 #[.int .i64 2, .pointer (some ⟨b, 0, none⟩)] w (fun e w' => e = .returned v1 ∧ Below w.heap.size w w') := by
  have c0 : w.cell? ⟨b, 0, none⟩ = some v0 := blk_cell h 0
  have c1 : w.cell? ⟨b, 1, none⟩ = some v1 := blk_cell h 1
  have c2 : w.cell? ⟨b, 2, none⟩ = some v2 := blk_cell h 2
  clear h
  go_enter Tryz.func31, Tryz.ntmps31
  go_wp2
  go_ret
  exact ⟨rfl, by go_grown⟩
set_option maxRecDepth 100000 in
set_option maxHeartbeats 4000000 in
theorem numF0 (o N1 N2 N3 : Nat) (p : Int → Int → Bool) (hget : ∀ w, Calls Tryz.prog 33 #[.int .i8 o] w (Struct1 150 [.func (.func N1) #[] #[], .func (.func N2) #[] #[], .func (.func N3) #[] #[]] w)) (hent : ∀ (args : Array Value) (W : World), (callFunc N1 args).run Tryz.prog W = .ok (.enter N1 args) W) (hop : OpAAF N1 p) (A1 A2 A : Option Addr) (n1 c1 n2 c2 g nb cb fr m : Nat) (xs ys bs : List Int) (T : TypeId) (rest : List Value) (w : World)
    (h1 : ReadsOf (Value.int .u8) (0 : Int) w A1 n1 (bytesL 8 xs)) (h2 : ReadsOf (Value.int .u8) (0 : Int) w A2 n2 (bytesL 8 ys)) (hc1 : n1 ≤ c1) (hc2 : n2 ≤ c2) (hx : ∀ x ∈ xs, OkF x) (hy : ∀ x ∈ ys, OkF x) (hl : xs.length = m) (hl2 : ys.length = m) (hm : m ≤ 300) (hM : Masks w)
    (hA : 0 < nb → A = some ⟨g, 0, none⟩) (hw : 0 < nb → W8 w g T rest bs) (hb : Bytes bs) (hbl : bs.length = nb) (hnc : nb ≤ cb) (hf : fr ≤ 7) (hr : fr + m ≤ 8 * nb) (hnb : nb ≤ 100) (g4 : 4 ≤ g) (hgl : g < w.heap.size) :
    Calls Tryz.prog 18 #[.int .i8 o, .int .i64 0, .slice A1 n1 c1, .slice A2 n2 c2, .slice A nb cb, .int .i64 fr] w (ToldF w g nb T rest bs fr m (fun i => p (xs.getD i 0) (ys.getD i 0))) := by
  have HK := Aside0.mk (fun (bx : Nat) (W : World) (hb0 : Below w.heap.size w W) (hbx : W.cell? ⟨bx, 0, none⟩ = some (.func (.func N1) #[] #[])) (hbg : bx ≠ g) => kerAAF N1 hent p hop A1 A2 A n1 c1 n2 c2 g nb cb bx fr m xs ys bs T rest W (h1.below hb0) (h2.below hb0) hc1 hc2 hx hy hl hl2 hm (hM.below hb0 (by have := hM.lt; omega)) hA (fun h => (hb0.block _ hgl).trans (hw h)) hb hbl hnc hf hr hnb g4 (Nat.lt_of_lt_of_le hgl hb0.size) hbx hbg)
  have HG := Aside0.mk hget
  clear h1 h2 hx hy hM hA hw hb hget hent hop hl hl2 
  go_enter Tryz.func18, Tryz.ntmps18
  go_wp2_with (first
    | (go_at_call 33; refine (HG.out _).mono ?_; rintro e w1 ⟨b0, hb0, rfl, hc0, hb1⟩; have HB1 := Aside0.mk hb1; have HC0 := Aside0.mk hc0; clear hb0 hc0 hb1)
    | (go_at_call 32; refine (genKF b0 N1 N2 N3 _ HC0.out).mono ?_; rintro e w2 ⟨b, b1, b2, b3, rfl, hh1, hh2, hh3, hk, hcb1, hcb2, hcb3, hb2⟩; have HB2 := Aside0.mk (HB1.out.trans (hb2.mono HB1.out.size)); have HK2 := Aside0.mk hk; have HC2 := Aside0.mk hcb1; have HN2 := Aside0.mk (Nat.le_trans HB1.out.size hh1); clear hh1 hh2 hh3 hk hcb1 hcb2 hcb3 hb2)
    | (go_at_call 31; refine (kernelOfF0 b _ _ _ _ HK2.out).mono ?_; rintro e w3 ⟨rfl, hb3⟩; have HB3 := Aside0.mk (HB2.out.trans (hb3.mono HB2.out.size)); have HC3 := Aside0.mk ((hb3.cell (cell_lt HC2.out)).trans HC2.out); have HGE := Aside0.mk (World.grownBy.refl w (some g)); clear hb3)
    | (go_at_call 88; refine (HK.out b1 _ HB3.out HC3.out (by have := HN2.out; omega)).mono ?_; rintro e w4 ⟨rfl, hg4, hb4⟩; have HG4 := Aside0.mk ((gb_base (World.grownBy.refl w (some g)) HB3.out).trans hg4); have HB4 := Aside0.mk hb4; clear hg4 hb4))
  go_end0
  exact ⟨rfl, HG4.out, HB4.out⟩
set_option maxRecDepth 100000 in
set_option maxHeartbeats 4000000 in
theorem numF1 (o N1 N2 N3 : Nat) (p : Int → Int → Bool) (hget : ∀ w, Calls Tryz.prog 33 #[.int .i8 o] w (Struct1 150 [.func (.func N1) #[] #[], .func (.func N2) #[] #[], .func (.func N3) #[] #[]] w)) (hent : ∀ (args : Array Value) (W : World), (callFunc N2 args).run Tryz.prog W = .ok (.enter N2 args) W) (hop : OpASF N2 p) (A1 A2 A : Option Addr) (n1 c1 n2 c2 g nb cb fr m : Nat) (xs ys bs : List Int) (T : TypeId) (rest : List Value) (w : World)
    (h1 : ReadsOf (Value.int .u8) (0 : Int) w A1 n1 (bytesL 8 xs)) (h2 : ReadsOf (Value.int .u8) (0 : Int) w A2 n2 (bytesL 8 ys)) (hc1 : n1 ≤ c1) (hc2 : n2 ≤ c2) (hx : ∀ x ∈ xs, OkF x) (hy : ∀ x ∈ ys, OkF x) (hl : xs.length = m) (hl2 : 0 < ys.length) (hl3 : ys.length ≤ 300) (hm : m ≤ 300) (hM : Masks w)
    (hA : 0 < nb → A = some ⟨g, 0, none⟩) (hw : 0 < nb → W8 w g T rest bs) (hb : Bytes bs) (hbl : bs.length = nb) (hnc : nb ≤ cb) (hf : fr ≤ 7) (hr : fr + m ≤ 8 * nb) (hnb : nb ≤ 100) (g4 : 4 ≤ g) (hgl : g < w.heap.size) :
    Calls Tryz.prog 18 #[.int .i8 o, .int .i64 1, .slice A1 n1 c1, .slice A2 n2 c2, .slice A nb cb, .int .i64 fr] w (ToldF w g nb T rest bs fr m (fun i => p (xs.getD i 0) (ys.getD 0 0))) := by
  have HK := Aside0.mk (fun (bx : Nat) (W : World) (hb0 : Below w.heap.size w W) (hbx : W.cell? ⟨bx, 0, none⟩ = some (.func (.func N2) #[] #[])) (hbg : bx ≠ g) => kerASF N2 hent p hop A1 A2 A n1 c1 n2 c2 g nb cb bx fr m xs ys bs T rest W (h1.below hb0) (h2.below hb0) hc1 hc2 hx hy hl hl2 hl3 hm (hM.below hb0 (by have := hM.lt; omega)) hA (fun h => (hb0.block _ hgl).trans (hw h)) hb hbl hnc hf hr hnb g4 (Nat.lt_of_lt_of_le hgl hb0.size) hbx hbg)
  have HG := Aside0.mk hget
  clear h1 h2 hx hy hM hA hw hb hget hent hop hl hl2 hl3
  go_enter Tryz.func18, Tryz.ntmps18
  go_wp2_with (first
    | (go_at_call 33; refine (HG.out _).mono ?_; rintro e w1 ⟨b0, hb0, rfl, hc0, hb1⟩; have HB1 := Aside0.mk hb1; have HC0 := Aside0.mk hc0; clear hb0 hc0 hb1)
    | (go_at_call 32; refine (genKF b0 N1 N2 N3 _ HC0.out).mono ?_; rintro e w2 ⟨b, b1, b2, b3, rfl, hh1, hh2, hh3, hk, hcb1, hcb2, hcb3, hb2⟩; have HB2 := Aside0.mk (HB1.out.trans (hb2.mono HB1.out.size)); have HK2 := Aside0.mk hk; have HC2 := Aside0.mk hcb2; have HN2 := Aside0.mk (Nat.le_trans HB1.out.size hh2); clear hh1 hh2 hh3 hk hcb1 hcb2 hcb3 hb2)
    | (go_at_call 31; refine (kernelOfF1 b _ _ _ _ HK2.out).mono ?_; rintro e w3 ⟨rfl, hb3⟩; have HB3 := Aside0.mk (HB2.out.trans (hb3.mono HB2.out.size)); have HC3 := Aside0.mk ((hb3.cell (cell_lt HC2.out)).trans HC2.out); have HGE := Aside0.mk (World.grownBy.refl w (some g)); clear hb3)
    | (go_at_call 92; refine (HK.out b2 _ HB3.out HC3.out (by have := HN2.out; omega)).mono ?_; rintro e w4 ⟨rfl, hg4, hb4⟩; have HG4 := Aside0.mk ((gb_base (World.grownBy.refl w (some g)) HB3.out).trans hg4); have HB4 := Aside0.mk hb4; clear hg4 hb4))
  go_end0
  exact ⟨rfl, HG4.out, HB4.out⟩
set_option maxRecDepth 100000 in
set_option maxHeartbeats 4000000 in
theorem numF2 (o N1 N2 N3 : Nat) (p : Int → Int → Bool) (hget : ∀ w, Calls Tryz.prog 33 #[.int .i8 o] w (Struct1 150 [.func (.func N1) #[] #[], .func (.func N2) #[] #[], .func (.func N3) #[] #[]] w)) (hent : ∀ (args : Array Value) (W : World), (callFunc N3 args).run Tryz.prog W = .ok (.enter N3 args) W) (hop : OpSAF N3 p) (A1 A2 A : Option Addr) (n1 c1 n2 c2 g nb cb fr m : Nat) (xs ys bs : List Int) (T : TypeId) (rest : List Value) (w : World)
    (h1 : ReadsOf (Value.int .u8) (0 : Int) w A1 n1 (bytesL 8 xs)) (h2 : ReadsOf (Value.int .u8) (0 : Int) w A2 n2 (bytesL 8 ys)) (hc1 : n1 ≤ c1) (hc2 : n2 ≤ c2) (hx : ∀ x ∈ xs, OkF x) (hy : ∀ x ∈ ys, OkF x) (hl : ys.length = m) (hl2 : 0 < xs.length) (hl3 : xs.length ≤ 300) (hm : m ≤ 300) (hM : Masks w)
    (hA : 0 < nb → A = some ⟨g, 0, none⟩) (hw : 0 < nb → W8 w g T rest bs) (hb : Bytes bs) (hbl : bs.length = nb) (hnc : nb ≤ cb) (hf : fr ≤ 7) (hr : fr + m ≤ 8 * nb) (hnb : nb ≤ 100) (g4 : 4 ≤ g) (hgl : g < w.heap.size) :
    Calls Tryz.prog 18 #[.int .i8 o, .int .i64 2, .slice A1 n1 c1, .slice A2 n2 c2, .slice A nb cb, .int .i64 fr] w (ToldF w g nb T rest bs fr m (fun i => p (xs.getD 0 0) (ys.getD i 0))) := by
  have HK := Aside0.mk (fun (bx : Nat) (W : World) (hb0 : Below w.heap.size w W) (hbx : W.cell? ⟨bx, 0, none⟩ = some (.func (.func N3) #[] #[])) (hbg : bx ≠ g) => kerSAF N3 hent p hop A1 A2 A n1 c1 n2 c2 g nb cb bx fr m xs ys bs T rest W (h1.below hb0) (h2.below hb0) hc1 hc2 hx hy hl hl2 hl3 hm (hM.below hb0 (by have := hM.lt; omega)) hA (fun h => (hb0.block _ hgl).trans (hw h)) hb hbl hnc hf hr hnb g4 (Nat.lt_of_lt_of_le hgl hb0.size) hbx hbg)
  have HG := Aside0.mk hget
  clear h1 h2 hx hy hM hA hw hb hget hent hop hl hl2 hl3
  go_enter Tryz.func18, Tryz.ntmps18
  go_wp2_with (first
    | (go_at_call 33; refine (HG.out _).mono ?_; rintro e w1 ⟨b0, hb0, rfl, hc0, hb1⟩; have HB1 := Aside0.mk hb1; have HC0 := Aside0.mk hc0; clear hb0 hc0 hb1)
    | (go_at_call 32; refine (genKF b0 N1 N2 N3 _ HC0.out).mono ?_; rintro e w2 ⟨b, b1, b2, b3, rfl, hh1, hh2, hh3, hk, hcb1, hcb2, hcb3, hb2⟩; have HB2 := Aside0.mk (HB1.out.trans (hb2.mono HB1.out.size)); have HK2 := Aside0.mk hk; have HC2 := Aside0.mk hcb3; have HN2 := Aside0.mk (Nat.le_trans HB1.out.size hh3); clear hh1 hh2 hh3 hk hcb1 hcb2 hcb3 hb2)
    | (go_at_call 31; refine (kernelOfF2 b _ _ _ _ HK2.out).mono ?_; rintro e w3 ⟨rfl, hb3⟩; have HB3 := Aside0.mk (HB2.out.trans (hb3.mono HB2.out.size)); have HC3 := Aside0.mk ((hb3.cell (cell_lt HC2.out)).trans HC2.out); have HGE := Aside0.mk (World.grownBy.refl w (some g)); clear hb3)
    | (go_at_call 94; refine (HK.out b3 _ HB3.out HC3.out (by have := HN2.out; omega)).mono ?_; rintro e w4 ⟨rfl, hg4, hb4⟩; have HG4 := Aside0.mk ((gb_base (World.grownBy.refl w (some g)) HB3.out).trans hg4); have HB4 := Aside0.mk hb4; clear hg4 hb4))
  go_end0
  exact ⟨rfl, HG4.out, HB4.out⟩

end Go.Proofs.YtmdmpdbnnegpiaaGreatDoor.Cmp
