/- An entry is put. -/
import Derived.Test.YtcjobencclihdaaDoorLvS
namespace Go.Proofs.YtcjobencclihdaaDoor.Lv
open Go.RowKit Go.Proofs.YtcjobencclihdaaDoorW.PrintWords Go.Proofs.YtcjobencclihdaaDoorW.PrintLast Go.Proofs.YtcjobencclihdaaDoorW.PrintMore
set_option linter.unusedVariables false
set_option linter.unusedSimpArgs false

def eD (es : List (Nat × Nat)) : List Int := es.map (fun e => (e.1 : Int))
def eR (es : List (Nat × Nat)) : List Int := es.map (fun e => (e.2 : Int))
def PutR (w0 : World) (g : Nat) (ds rs : List Int) (e : Ending) (w' : World) : Prop := e = .returned (.tuple #[]) ∧ ∃ D R, Sh w0 w' w0.heap.size g D R ds rs
set_option maxRecDepth 100000 in
set_option maxHeartbeats 4000000 in
theorem put_nul (n l d r : Nat) (hd : d < 1000) (hr : r < 1000) (v : V) (hv : v.nul = true) (w0 W : World) (g : Nat) (D R : Value) (ds rs : List Int) (h : Sh w0 W w0.heap.size g D R ds rs) (hl1 : ds.length ≤ 1099511627776) (hl2 : rs.length ≤ 1099511627776) :
    Calls Tryd.prog 12 #[.pointer (some ⟨g, 0, none⟩), v.agg, .int .i64 n, .int .i64 l, .int .i64 d, .int .i64 r] W (PutR w0 g (ds ++ [((d : Nat) : Int)]) (rs ++ [(r : Int)])) := by
  rcases v with ⟨nul, num, txt, kA, kn, kc⟩
  dsimp only at hv 
  subst hv
  have H0 := Aside0.mk h
  have er : IntKind.i16.wrap (r : Int) = r := i16_small r (by omega)
  have ed : IntKind.i16.wrap (d : Int) = d := i16_small d (by omega)
  clear h
  go_enter Tryd.func12, Tryd.ntmps12
  go_wp2_with fail
  have HS1 := Aside0.mk (H0.out.step (W' := ((W.alloc (.cells #[.bool true, .int .u64 num, .string txt, .slice kA kn kc] 45)).drew)) (below_drew ((Below.refl _ _).alloc (Nat.le_refl _) _)))
  have hS0 := held_of HS1.out.blk
  refine start_ (n := 24) (S := Held g D R) (ds := [20, 23]) #[false, false, false, false, false, false, false, false, false, false, false, false, false, false, false, false, false, false, false, false, false, false, false, false] (by kernel_rfl) rfl rfl hS0 (fun hHeld => ?_)
  generalize HW1 : ((W.alloc (.cells #[.bool true, .int .u64 num, .string txt, .slice kA kn kc] 45)).drew) = w1 at HS1 hHeld ⊢
  clear HW1
  refine pure_ (i := 0) (N := some 39) (v := ?_) (a' := ?_) #[true, false, false, false, false, false, false, false, false, false, false, false, false, false, false, false, false, false, false, false, false, false, false, false] rfl rfl (by kernel_rfl) (fun _ _ _ h => h) (Or.inl ⟨by rfl, ?_⟩) ?_ ?_
  rotate_left
  · intro w'
    go_simp
    with_reducible rfl
  rotate_left
  · simp only [Act.put, List.setIfInBounds_toArray, List.set_cons_zero, List.set_cons_succ, i64_w, i32_w, ed, er]
    rfl
  refine pure_ (i := 1) (N := some 40) (v := ?_) (a' := ?_) #[true, true, false, false, false, false, false, false, false, false, false, false, false, false, false, false, false, false, false, false, false, false, false, false] rfl rfl (by kernel_rfl) (fun _ _ _ h => h) (Or.inl ⟨by rfl, ?_⟩) ?_ ?_
  rotate_left
  · intro w'
    go_simp
    with_reducible rfl
  rotate_left
  · simp only [Act.put, List.setIfInBounds_toArray, List.set_cons_zero, List.set_cons_succ, i64_w, i32_w, ed, er]
    rfl
  refine pure_ (i := 2) (N := some 41) (v := ?_) (a' := ?_) #[true, true, true, false, false, false, false, false, false, false, false, false, false, false, false, false, false, false, false, false, false, false, false, false] rfl rfl (by kernel_rfl) (fun _ _ _ h => h) (Or.inl ⟨by rfl, ?_⟩) ?_ ?_
  rotate_left
  · intro w'
    go_simp
    with_reducible rfl
  rotate_left
  · simp only [Act.put, List.setIfInBounds_toArray, List.set_cons_zero, List.set_cons_succ, i64_w, i32_w, ed, er]
    rfl
  refine pure_ (i := 3) (N := some 42) (v := ?_) (a' := ?_) #[true, true, true, true, false, false, false, false, false, false, false, false, false, false, false, false, false, false, false, false, false, false, false, false] rfl rfl (by kernel_rfl) (fun _ _ _ h => h) (Or.inl ⟨by rfl, ?_⟩) ?_ ?_
  rotate_left
  · intro w'
    go_simp
    with_reducible rfl
  rotate_left
  · simp only [Act.put, List.setIfInBounds_toArray, List.set_cons_zero, List.set_cons_succ, i64_w, i32_w, ed, er]
    rfl
  refine pure_ (i := 4) (N := some 43) (v := ?_) (a' := ?_) #[true, true, true, true, true, false, false, false, false, false, false, false, false, false, false, false, false, false, false, false, false, false, false, false] rfl rfl (by kernel_rfl) (fun _ _ _ h => h) (Or.inl ⟨by rfl, ?_⟩) ?_ ?_
  rotate_left
  · intro w'
    go_simp
    with_reducible rfl
  rotate_left
  · simp only [Act.put, List.setIfInBounds_toArray, List.set_cons_zero, List.set_cons_succ, i64_w, i32_w, ed, er]
    rfl
  refine pure_ (i := 6) (N := some 45) (v := ?_) (a' := ?_) #[true, true, true, true, true, false, true, false, false, false, false, false, false, false, false, false, false, false, false, false, false, false, false, false] rfl rfl (by kernel_rfl) (fun _ _ _ h => h) (Or.inl ⟨by rfl, ?_⟩) ?_ ?_
  rotate_left
  · intro w'
    go_simp
    with_reducible rfl
  rotate_left
  · simp only [Act.put, List.setIfInBounds_toArray, List.set_cons_zero, List.set_cons_succ, i64_w, i32_w, ed, er]
    rfl
  refine pure_ (i := 7) (N := some 46) (v := ?_) (a' := ?_) #[true, true, true, true, true, false, true, true, false, false, false, false, false, false, false, false, false, false, false, false, false, false, false, false] rfl rfl (by kernel_rfl) (fun _ _ _ h => h) (Or.inl ⟨by rfl, ?_⟩) ?_ ?_
  rotate_left
  · intro w'
    go_simp
    with_reducible rfl
  rotate_left
  · simp only [Act.put, List.setIfInBounds_toArray, List.set_cons_zero, List.set_cons_succ, i64_w, i32_w, ed, er]
    rfl
  refine take_ (i := 5) (N := some 44) (v := ?_) (a' := ?_) #[true, true, true, true, true, true, true, true, false, false, false, false, false, false, false, false, false, false, false, false, false, false, false, false] rfl rfl (by kernel_rfl) (fun _ _ _ h => h) (Or.inl ⟨by rfl, ?_⟩) hHeld ?_ ?_
  rotate_left
  · intro w' s0
    obtain ⟨s0, s1, f0, f1⟩ := s0
    go_simp
    with_reducible rfl
  rotate_left
  · simp only [Act.put, List.setIfInBounds_toArray, List.set_cons_zero, List.set_cons_succ, i64_w, i32_w, ed, er]
    rfl
  refine pure_ (i := 10) (N := some 49) (v := ?_) (a' := ?_) #[true, true, true, true, true, true, true, true, false, false, true, false, false, false, false, false, false, false, false, false, false, false, false, false] rfl rfl (by kernel_rfl) (fun _ _ _ h => h) (Or.inl ⟨by rfl, ?_⟩) ?_ ?_
  rotate_left
  · intro w'
    go_simp
    with_reducible rfl
  rotate_left
  · simp only [Act.put, List.setIfInBounds_toArray, List.set_cons_zero, List.set_cons_succ, i64_w, i32_w, ed, er]
    rfl
  refine pure_ (i := 11) (N := some 50) (v := ?_) (a' := ?_) #[true, true, true, true, true, true, true, true, false, false, true, true, false, false, false, false, false, false, false, false, false, false, false, false] rfl rfl (by kernel_rfl) (fun _ _ _ h => h) (Or.inl ⟨by rfl, ?_⟩) ?_ ?_
  rotate_left
  · intro w'
    go_simp
    with_reducible rfl
  rotate_left
  · simp only [Act.put, List.setIfInBounds_toArray, List.set_cons_zero, List.set_cons_succ, i64_w, i32_w, ed, er]
    rfl
  refine pure_ (i := 12) (N := some 51) (v := ?_) (a' := ?_) #[true, true, true, true, true, true, true, true, false, false, true, true, true, false, false, false, false, false, false, false, false, false, false, false] rfl rfl (by kernel_rfl) (fun _ _ _ h => h) (Or.inl ⟨by rfl, ?_⟩) ?_ ?_
  rotate_left
  · intro w'
    go_simp
    with_reducible rfl
  rotate_left
  · simp only [Act.put, List.setIfInBounds_toArray, List.set_cons_zero, List.set_cons_succ, i64_w, i32_w, ed, er]
    rfl
  refine pure_ (i := 14) (N := some 53) (v := ?_) (a' := ?_) #[true, true, true, true, true, true, true, true, false, false, true, true, true, false, true, false, false, false, false, false, false, false, false, false] rfl rfl (by kernel_rfl) (fun _ _ _ h => h) (Or.inl ⟨by rfl, ?_⟩) ?_ ?_
  rotate_left
  · intro w'
    go_simp
    with_reducible rfl
  rotate_left
  · simp only [Act.put, List.setIfInBounds_toArray, List.set_cons_zero, List.set_cons_succ, i64_w, i32_w, ed, er]
    rfl
  refine pure_ (i := 15) (N := some 54) (v := ?_) (a' := ?_) #[true, true, true, true, true, true, true, true, false, false, true, true, true, false, true, true, false, false, false, false, false, false, false, false] rfl rfl (by kernel_rfl) (fun _ _ _ h => h) (Or.inl ⟨by rfl, ?_⟩) ?_ ?_
  rotate_left
  · intro w'
    go_simp
    with_reducible rfl
  rotate_left
  · simp only [Act.put, List.setIfInBounds_toArray, List.set_cons_zero, List.set_cons_succ, i64_w, i32_w, ed, er]
    rfl
  refine take_ (i := 13) (N := some 52) (v := ?_) (a' := ?_) #[true, true, true, true, true, true, true, true, false, false, true, true, true, true, true, true, false, false, false, false, false, false, false, false] rfl rfl (by kernel_rfl) (fun _ _ _ h => h) (Or.inl ⟨by rfl, ?_⟩) hHeld ?_ ?_
  rotate_left
  · intro w' s0
    obtain ⟨s0, s1, f0, f1⟩ := s0
    go_simp
    with_reducible rfl
  rotate_left
  · simp only [Act.put, List.setIfInBounds_toArray, List.set_cons_zero, List.set_cons_succ, i64_w, i32_w, ed, er]
    rfl
  have HA0 := Aside0.mk (St.start HS1.out)
  refine two_ (i := 8) (j := 16) (Ni := some 47) (Nj := some 55) #[true, true, true, true, true, true, true, true, true, false, true, true, true, true, true, true, false, false, false, false, false, false, false, false] #[true, true, true, true, true, true, true, true, false, false, true, true, true, true, true, true, true, false, false, false, false, false, false, false] rfl rfl rfl rfl (by kernel_rfl) (by decide) (by decide) (fun K hK => ?_) (fun K hK => ?_)
  · skip
    refine value_ (v := .slice (some ⟨w1.heap.size, 0, none⟩) 1 1) (w1 := w1.alloc (.cells #[.int .i16 (d : Int)] 60)) (by rfl) rfl (by go_simp) ?_
    have HA1 := Aside0.mk (HA0.out.build (d : Int))
    refine hK.out _ _ HA1.out.held (fun _ => ?_)
    clear hK K
    refine norm_ (a' := ?_) ?_ ?_
    rotate_left
    · simp only [Act.put, List.setIfInBounds_toArray, List.set_cons_zero, List.set_cons_succ]
      rfl
    generalize w1.alloc (.cells #[.int .i16 (d : Int)] 60) = w2 at HA1 ⊢
    refine two_ (i := 9) (j := 16) (Ni := some 48) (Nj := some 55) #[true, true, true, true, true, true, true, true, true, true, true, true, true, true, true, true, false, false, false, false, false, false, false, false] #[true, true, true, true, true, true, true, true, true, false, true, true, true, true, true, true, true, false, false, false, false, false, false, false] rfl rfl rfl rfl (by kernel_rfl) (by decide) (by decide) (fun K hK => ?_) (fun K hK => ?_)
    · skip
      refine appH (w0 := w0) w0.heap.size (some 48) rfl (by rfl) (.tmp 44) (.tmp 47) rfl _ _ w1.heap.size (d : Int) rfl rfl (HA1.out.lit _ _ (.inr ⟨rfl, rfl⟩)).1 HA1.out.d HA1.out.bel HA1.out.base_le hl1 (fun v1 w3 h1 h2 h3 h4 => ?_)
      have HA2 := Aside0.mk (HA1.out.appD h1 h2 h3 h4)
      clear h1 h2 h3 h4
      refine hK.out _ _ HA2.out.held (fun _ => ?_)
      clear hK K
      refine norm_ (a' := ?_) ?_ ?_
      rotate_left
      · simp only [Act.put, List.setIfInBounds_toArray, List.set_cons_zero, List.set_cons_succ]
        rfl
      refine one_ (i := 16) (N := some 55) #[true, true, true, true, true, true, true, true, true, true, true, true, true, true, true, true, true, false, false, false, false, false, false, false] rfl rfl (by kernel_rfl) (by decide) (fun K hK => ?_)
      refine value_ (v := .slice (some ⟨w3.heap.size, 0, none⟩) 1 1) (w1 := w3.alloc (.cells #[.int .i16 (r : Int)] 60)) (by rfl) rfl (by go_simp) ?_
      have HA3 := Aside0.mk (HA2.out.build (r : Int))
      refine hK.out _ _ HA3.out.held (fun _ => ?_)
      clear hK K
      refine norm_ (a' := ?_) ?_ ?_
      rotate_left
      · simp only [Act.put, List.setIfInBounds_toArray, List.set_cons_zero, List.set_cons_succ]
        rfl
      generalize w3.alloc (.cells #[.int .i16 (r : Int)] 60) = w4 at HA3 ⊢
      refine one_ (i := 17) (N := some 56) #[true, true, true, true, true, true, true, true, true, true, true, true, true, true, true, true, true, true, false, false, false, false, false, false] rfl rfl (by kernel_rfl) (by decide) (fun K hK => ?_)
      refine appH (w0 := w0) w0.heap.size (some 56) rfl (by rfl) (.tmp 52) (.tmp 55) rfl _ _ w3.heap.size (r : Int) rfl rfl (HA3.out.lit _ _ (.inr ⟨rfl, rfl⟩)).1 HA3.out.r HA3.out.bel HA3.out.base_le hl2 (fun v2 w5 h1 h2 h3 h4 => ?_)
      have HA4 := Aside0.mk (HA3.out.appR h1 h2 h3 h4)
      clear h1 h2 h3 h4
      refine hK.out _ _ HA4.out.held (fun _ => ?_)
      clear hK K
      refine norm_ (a' := ?_) ?_ ?_
      rotate_left
      · simp only [Act.put, List.setIfInBounds_toArray, List.set_cons_zero, List.set_cons_succ]
        rfl
      refine pure_ (i := 18) (N := some 57) (v := ?_) (a' := ?_) #[true, true, true, true, true, true, true, true, true, true, true, true, true, true, true, true, true, true, true, false, false, false, false, false] rfl rfl (by kernel_rfl) (fun _ _ _ h => h) (Or.inl ⟨by rfl, ?_⟩) ?_ ?_
      rotate_left
      · intro w'
        go_simp
        with_reducible rfl
      rotate_left
      · simp only [Act.put, List.setIfInBounds_toArray, List.set_cons_zero, List.set_cons_succ, i64_w, i32_w, ed, er]
        rfl
      refine pure_ (i := 19) (N := some 58) (v := ?_) (a' := ?_) #[true, true, true, true, true, true, true, true, true, true, true, true, true, true, true, true, true, true, true, true, false, false, false, false] rfl rfl (by kernel_rfl) (fun _ _ _ h => h) (Or.inl ⟨by rfl, ?_⟩) ?_ ?_
      rotate_left
      · intro w'
        go_simp
        with_reducible rfl
      rotate_left
      · simp only [Act.put, List.setIfInBounds_toArray, List.set_cons_zero, List.set_cons_succ, i64_w, i32_w, ed, er]
        rfl
      have h2 := HA4.out.two
      obtain ⟨p0, p1, p2, p3⟩ := held_of h2.blk
      have HF := Aside0.mk h2.done
      obtain ⟨A1, c1, hA1, _, _⟩ := Kd.R_reads h2.d
      obtain ⟨A2, c2, hA2, _, _⟩ := Kd.R_reads h2.r
      have p4 := blk_set h2.blk 0 v1
      obtain ⟨q0, q1, q2, q3⟩ := held_of p4
      clear h2 p4
      refine last_ (i := 20) (N := none) #[true, true, true, true, true, true, true, true, true, true, true, true, true, true, true, true, true, true, true, true, true, false, false, false] rfl rfl (by kernel_rfl) (by decide) (fun K hK => ?_)
      refine skip_ (w1 := w5.setCell ⟨g, 0, none⟩ v1) ?_ ?_ ?_ ?_
      · rfl
      · rfl
      · rw [hA1]
        go_simp
      refine hK.out _ _ ?_
      clear hK K
      refine pure_ (i := 21) (N := some 59) (v := ?_) (a' := ?_) #[true, true, true, true, true, true, true, true, true, true, true, true, true, true, true, true, true, true, true, true, true, true, false, false] rfl rfl (by kernel_rfl) (fun _ _ _ h => h) (Or.inl ⟨by rfl, ?_⟩) ?_ ?_
      rotate_left
      · intro w'
        go_simp
        with_reducible rfl
      rotate_left
      · simp only [Act.put, List.setIfInBounds_toArray, List.set_cons_zero, List.set_cons_succ, i64_w, i32_w, ed, er]
        rfl
      refine pure_ (i := 22) (N := some 60) (v := ?_) (a' := ?_) #[true, true, true, true, true, true, true, true, true, true, true, true, true, true, true, true, true, true, true, true, true, true, true, false] rfl rfl (by kernel_rfl) (fun _ _ _ h => h) (Or.inl ⟨by rfl, ?_⟩) ?_ ?_
      rotate_left
      · intro w'
        go_simp
        with_reducible rfl
      rotate_left
      · simp only [Act.put, List.setIfInBounds_toArray, List.set_cons_zero, List.set_cons_succ, i64_w, i32_w, ed, er]
        rfl
      refine last_ (i := 23) (N := none) #[true, true, true, true, true, true, true, true, true, true, true, true, true, true, true, true, true, true, true, true, true, true, true, true] rfl rfl (by kernel_rfl) (by decide) (fun K hK => ?_)
      refine skip_ (w1 := (w5.setCell ⟨g, 0, none⟩ v1).setCell ⟨g, 1, none⟩ v2) ?_ ?_ ?_ ?_
      · rfl
      · rfl
      · rw [hA2]
        go_simp
      refine hK.out _ _ ?_
      clear hK K
      refine done_ (by kernel_rfl) ?_
      clear p0 p1 p2 p3 q0 q1 q2 q3 hA1 hA2
      generalize (w5.setCell ⟨g, 0, none⟩ v1).setCell ⟨g, 1, none⟩ v2 = wf at HF ⊢
      go_end0; exact ⟨rfl, _, _, HF.out⟩
    · skip
      refine value_ (v := .slice (some ⟨w2.heap.size, 0, none⟩) 1 1) (w1 := w2.alloc (.cells #[.int .i16 (r : Int)] 60)) (by rfl) rfl (by go_simp) ?_
      have HA2 := Aside0.mk (HA1.out.build (r : Int))
      refine hK.out _ _ HA2.out.held (fun _ => ?_)
      clear hK K
      refine norm_ (a' := ?_) ?_ ?_
      rotate_left
      · simp only [Act.put, List.setIfInBounds_toArray, List.set_cons_zero, List.set_cons_succ]
        rfl
      generalize w2.alloc (.cells #[.int .i16 (r : Int)] 60) = w3 at HA2 ⊢
      refine one_ (i := 9) (N := some 48) #[true, true, true, true, true, true, true, true, true, true, true, true, true, true, true, true, true, false, false, false, false, false, false, false] rfl rfl (by kernel_rfl) (by decide) (fun K hK => ?_)
      refine appH (w0 := w0) w0.heap.size (some 48) rfl (by rfl) (.tmp 44) (.tmp 47) rfl _ _ w1.heap.size (d : Int) rfl rfl (HA2.out.lit _ _ (.inl (.inr ⟨rfl, rfl⟩))).1 HA2.out.d HA2.out.bel HA2.out.base_le hl1 (fun v1 w4 h1 h2 h3 h4 => ?_)
      have HA3 := Aside0.mk (HA2.out.appD h1 h2 h3 h4)
      clear h1 h2 h3 h4
      refine hK.out _ _ HA3.out.held (fun _ => ?_)
      clear hK K
      refine norm_ (a' := ?_) ?_ ?_
      rotate_left
      · simp only [Act.put, List.setIfInBounds_toArray, List.set_cons_zero, List.set_cons_succ]
        rfl
      refine one_ (i := 17) (N := some 56) #[true, true, true, true, true, true, true, true, true, true, true, true, true, true, true, true, true, true, false, false, false, false, false, false] rfl rfl (by kernel_rfl) (by decide) (fun K hK => ?_)
      refine appH (w0 := w0) w0.heap.size (some 56) rfl (by rfl) (.tmp 52) (.tmp 55) rfl _ _ w2.heap.size (r : Int) rfl rfl (HA3.out.lit _ _ (.inr ⟨rfl, rfl⟩)).1 HA3.out.r HA3.out.bel HA3.out.base_le hl2 (fun v2 w5 h1 h2 h3 h4 => ?_)
      have HA4 := Aside0.mk (HA3.out.appR h1 h2 h3 h4)
      clear h1 h2 h3 h4
      refine hK.out _ _ HA4.out.held (fun _ => ?_)
      clear hK K
      refine norm_ (a' := ?_) ?_ ?_
      rotate_left
      · simp only [Act.put, List.setIfInBounds_toArray, List.set_cons_zero, List.set_cons_succ]
        rfl
      refine pure_ (i := 18) (N := some 57) (v := ?_) (a' := ?_) #[true, true, true, true, true, true, true, true, true, true, true, true, true, true, true, true, true, true, true, false, false, false, false, false] rfl rfl (by kernel_rfl) (fun _ _ _ h => h) (Or.inl ⟨by rfl, ?_⟩) ?_ ?_
      rotate_left
      · intro w'
        go_simp
        with_reducible rfl
      rotate_left
      · simp only [Act.put, List.setIfInBounds_toArray, List.set_cons_zero, List.set_cons_succ, i64_w, i32_w, ed, er]
        rfl
      refine pure_ (i := 19) (N := some 58) (v := ?_) (a' := ?_) #[true, true, true, true, true, true, true, true, true, true, true, true, true, true, true, true, true, true, true, true, false, false, false, false] rfl rfl (by kernel_rfl) (fun _ _ _ h => h) (Or.inl ⟨by rfl, ?_⟩) ?_ ?_
      rotate_left
      · intro w'
        go_simp
        with_reducible rfl
      rotate_left
      · simp only [Act.put, List.setIfInBounds_toArray, List.set_cons_zero, List.set_cons_succ, i64_w, i32_w, ed, er]
        rfl
      have h2 := HA4.out.two
      obtain ⟨p0, p1, p2, p3⟩ := held_of h2.blk
      have HF := Aside0.mk h2.done
      obtain ⟨A1, c1, hA1, _, _⟩ := Kd.R_reads h2.d
      obtain ⟨A2, c2, hA2, _, _⟩ := Kd.R_reads h2.r
      have p4 := blk_set h2.blk 0 v1
      obtain ⟨q0, q1, q2, q3⟩ := held_of p4
      clear h2 p4
      refine last_ (i := 20) (N := none) #[true, true, true, true, true, true, true, true, true, true, true, true, true, true, true, true, true, true, true, true, true, false, false, false] rfl rfl (by kernel_rfl) (by decide) (fun K hK => ?_)
      refine skip_ (w1 := w5.setCell ⟨g, 0, none⟩ v1) ?_ ?_ ?_ ?_
      · rfl
      · rfl
      · rw [hA1]
        go_simp
      refine hK.out _ _ ?_
      clear hK K
      refine pure_ (i := 21) (N := some 59) (v := ?_) (a' := ?_) #[true, true, true, true, true, true, true, true, true, true, true, true, true, true, true, true, true, true, true, true, true, true, false, false] rfl rfl (by kernel_rfl) (fun _ _ _ h => h) (Or.inl ⟨by rfl, ?_⟩) ?_ ?_
      rotate_left
      · intro w'
        go_simp
        with_reducible rfl
      rotate_left
      · simp only [Act.put, List.setIfInBounds_toArray, List.set_cons_zero, List.set_cons_succ, i64_w, i32_w, ed, er]
        rfl
      refine pure_ (i := 22) (N := some 60) (v := ?_) (a' := ?_) #[true, true, true, true, true, true, true, true, true, true, true, true, true, true, true, true, true, true, true, true, true, true, true, false] rfl rfl (by kernel_rfl) (fun _ _ _ h => h) (Or.inl ⟨by rfl, ?_⟩) ?_ ?_
      rotate_left
      · intro w'
        go_simp
        with_reducible rfl
      rotate_left
      · simp only [Act.put, List.setIfInBounds_toArray, List.set_cons_zero, List.set_cons_succ, i64_w, i32_w, ed, er]
        rfl
      refine last_ (i := 23) (N := none) #[true, true, true, true, true, true, true, true, true, true, true, true, true, true, true, true, true, true, true, true, true, true, true, true] rfl rfl (by kernel_rfl) (by decide) (fun K hK => ?_)
      refine skip_ (w1 := (w5.setCell ⟨g, 0, none⟩ v1).setCell ⟨g, 1, none⟩ v2) ?_ ?_ ?_ ?_
      · rfl
      · rfl
      · rw [hA2]
        go_simp
      refine hK.out _ _ ?_
      clear hK K
      refine done_ (by kernel_rfl) ?_
      clear p0 p1 p2 p3 q0 q1 q2 q3 hA1 hA2
      generalize (w5.setCell ⟨g, 0, none⟩ v1).setCell ⟨g, 1, none⟩ v2 = wf at HF ⊢
      go_end0; exact ⟨rfl, _, _, HF.out⟩
  · skip
    refine value_ (v := .slice (some ⟨w1.heap.size, 0, none⟩) 1 1) (w1 := w1.alloc (.cells #[.int .i16 (r : Int)] 60)) (by rfl) rfl (by go_simp) ?_
    have HA1 := Aside0.mk (HA0.out.build (r : Int))
    refine hK.out _ _ HA1.out.held (fun _ => ?_)
    clear hK K
    refine norm_ (a' := ?_) ?_ ?_
    rotate_left
    · simp only [Act.put, List.setIfInBounds_toArray, List.set_cons_zero, List.set_cons_succ]
      rfl
    generalize w1.alloc (.cells #[.int .i16 (r : Int)] 60) = w2 at HA1 ⊢
    refine one_ (i := 8) (N := some 47) #[true, true, true, true, true, true, true, true, true, false, true, true, true, true, true, true, true, false, false, false, false, false, false, false] rfl rfl (by kernel_rfl) (by decide) (fun K hK => ?_)
    refine value_ (v := .slice (some ⟨w2.heap.size, 0, none⟩) 1 1) (w1 := w2.alloc (.cells #[.int .i16 (d : Int)] 60)) (by rfl) rfl (by go_simp) ?_
    have HA2 := Aside0.mk (HA1.out.build (d : Int))
    refine hK.out _ _ HA2.out.held (fun _ => ?_)
    clear hK K
    refine norm_ (a' := ?_) ?_ ?_
    rotate_left
    · simp only [Act.put, List.setIfInBounds_toArray, List.set_cons_zero, List.set_cons_succ]
      rfl
    generalize w2.alloc (.cells #[.int .i16 (d : Int)] 60) = w3 at HA2 ⊢
    refine one_ (i := 9) (N := some 48) #[true, true, true, true, true, true, true, true, true, true, true, true, true, true, true, true, true, false, false, false, false, false, false, false] rfl rfl (by kernel_rfl) (by decide) (fun K hK => ?_)
    refine appH (w0 := w0) w0.heap.size (some 48) rfl (by rfl) (.tmp 44) (.tmp 47) rfl _ _ w2.heap.size (d : Int) rfl rfl (HA2.out.lit _ _ (.inr ⟨rfl, rfl⟩)).1 HA2.out.d HA2.out.bel HA2.out.base_le hl1 (fun v1 w4 h1 h2 h3 h4 => ?_)
    have HA3 := Aside0.mk (HA2.out.appD h1 h2 h3 h4)
    clear h1 h2 h3 h4
    refine hK.out _ _ HA3.out.held (fun _ => ?_)
    clear hK K
    refine norm_ (a' := ?_) ?_ ?_
    rotate_left
    · simp only [Act.put, List.setIfInBounds_toArray, List.set_cons_zero, List.set_cons_succ]
      rfl
    refine one_ (i := 17) (N := some 56) #[true, true, true, true, true, true, true, true, true, true, true, true, true, true, true, true, true, true, false, false, false, false, false, false] rfl rfl (by kernel_rfl) (by decide) (fun K hK => ?_)
    refine appH (w0 := w0) w0.heap.size (some 56) rfl (by rfl) (.tmp 52) (.tmp 55) rfl _ _ w1.heap.size (r : Int) rfl rfl (HA3.out.lit _ _ (.inl (.inr ⟨rfl, rfl⟩))).1 HA3.out.r HA3.out.bel HA3.out.base_le hl2 (fun v2 w5 h1 h2 h3 h4 => ?_)
    have HA4 := Aside0.mk (HA3.out.appR h1 h2 h3 h4)
    clear h1 h2 h3 h4
    refine hK.out _ _ HA4.out.held (fun _ => ?_)
    clear hK K
    refine norm_ (a' := ?_) ?_ ?_
    rotate_left
    · simp only [Act.put, List.setIfInBounds_toArray, List.set_cons_zero, List.set_cons_succ]
      rfl
    refine pure_ (i := 18) (N := some 57) (v := ?_) (a' := ?_) #[true, true, true, true, true, true, true, true, true, true, true, true, true, true, true, true, true, true, true, false, false, false, false, false] rfl rfl (by kernel_rfl) (fun _ _ _ h => h) (Or.inl ⟨by rfl, ?_⟩) ?_ ?_
    rotate_left
    · intro w'
      go_simp
      with_reducible rfl
    rotate_left
    · simp only [Act.put, List.setIfInBounds_toArray, List.set_cons_zero, List.set_cons_succ, i64_w, i32_w, ed, er]
      rfl
    refine pure_ (i := 19) (N := some 58) (v := ?_) (a' := ?_) #[true, true, true, true, true, true, true, true, true, true, true, true, true, true, true, true, true, true, true, true, false, false, false, false] rfl rfl (by kernel_rfl) (fun _ _ _ h => h) (Or.inl ⟨by rfl, ?_⟩) ?_ ?_
    rotate_left
    · intro w'
      go_simp
      with_reducible rfl
    rotate_left
    · simp only [Act.put, List.setIfInBounds_toArray, List.set_cons_zero, List.set_cons_succ, i64_w, i32_w, ed, er]
      rfl
    have h2 := HA4.out.two
    obtain ⟨p0, p1, p2, p3⟩ := held_of h2.blk
    have HF := Aside0.mk h2.done
    obtain ⟨A1, c1, hA1, _, _⟩ := Kd.R_reads h2.d
    obtain ⟨A2, c2, hA2, _, _⟩ := Kd.R_reads h2.r
    have p4 := blk_set h2.blk 0 v1
    obtain ⟨q0, q1, q2, q3⟩ := held_of p4
    clear h2 p4
    refine last_ (i := 20) (N := none) #[true, true, true, true, true, true, true, true, true, true, true, true, true, true, true, true, true, true, true, true, true, false, false, false] rfl rfl (by kernel_rfl) (by decide) (fun K hK => ?_)
    refine skip_ (w1 := w5.setCell ⟨g, 0, none⟩ v1) ?_ ?_ ?_ ?_
    · rfl
    · rfl
    · rw [hA1]
      go_simp
    refine hK.out _ _ ?_
    clear hK K
    refine pure_ (i := 21) (N := some 59) (v := ?_) (a' := ?_) #[true, true, true, true, true, true, true, true, true, true, true, true, true, true, true, true, true, true, true, true, true, true, false, false] rfl rfl (by kernel_rfl) (fun _ _ _ h => h) (Or.inl ⟨by rfl, ?_⟩) ?_ ?_
    rotate_left
    · intro w'
      go_simp
      with_reducible rfl
    rotate_left
    · simp only [Act.put, List.setIfInBounds_toArray, List.set_cons_zero, List.set_cons_succ, i64_w, i32_w, ed, er]
      rfl
    refine pure_ (i := 22) (N := some 60) (v := ?_) (a' := ?_) #[true, true, true, true, true, true, true, true, true, true, true, true, true, true, true, true, true, true, true, true, true, true, true, false] rfl rfl (by kernel_rfl) (fun _ _ _ h => h) (Or.inl ⟨by rfl, ?_⟩) ?_ ?_
    rotate_left
    · intro w'
      go_simp
      with_reducible rfl
    rotate_left
    · simp only [Act.put, List.setIfInBounds_toArray, List.set_cons_zero, List.set_cons_succ, i64_w, i32_w, ed, er]
      rfl
    refine last_ (i := 23) (N := none) #[true, true, true, true, true, true, true, true, true, true, true, true, true, true, true, true, true, true, true, true, true, true, true, true] rfl rfl (by kernel_rfl) (by decide) (fun K hK => ?_)
    refine skip_ (w1 := (w5.setCell ⟨g, 0, none⟩ v1).setCell ⟨g, 1, none⟩ v2) ?_ ?_ ?_ ?_
    · rfl
    · rfl
    · rw [hA2]
      go_simp
    refine hK.out _ _ ?_
    clear hK K
    refine done_ (by kernel_rfl) ?_
    clear p0 p1 p2 p3 q0 q1 q2 q3 hA1 hA2
    generalize (w5.setCell ⟨g, 0, none⟩ v1).setCell ⟨g, 1, none⟩ v2 = wf at HF ⊢
    go_end0; exact ⟨rfl, _, _, HF.out⟩
set_option maxRecDepth 100000 in
set_option maxHeartbeats 4000000 in
theorem put_leaf (n d r : Nat) (hd : d < 1000) (hr : r < 1000) (v : V) (hv : v.nul = false) (w0 W : World) (g : Nat) (D R : Value) (ds rs : List Int) (h : Sh w0 W w0.heap.size g D R ds rs) (hl1 : ds.length ≤ 1099511627776) (hl2 : rs.length ≤ 1099511627776) :
    Calls Tryd.prog 12 #[.pointer (some ⟨g, 0, none⟩), v.agg, .int .i64 n, .int .i64 n, .int .i64 d, .int .i64 r] W (PutR w0 g (ds ++ [((d + 1 : Nat) : Int)]) (rs ++ [(r : Int)])) := by
  rcases v with ⟨nul, num, txt, kA, kn, kc⟩
  dsimp only at hv 
  subst hv
  have H0 := Aside0.mk h
  have er : IntKind.i16.wrap (r : Int) = r := i16_small r (by omega)
  obtain ⟨e, he⟩ : ∃ e, d + 1 = e := ⟨_, rfl⟩
  have ed : IntKind.i16.wrap (e : Int) = e := i16_small e (by omega)
  have ed1 : wrap64 ((d : Int) + 1) = (e : Int) := by unfold wrap64; omega
  rw [he]
  clear h
  go_enter Tryd.func12, Tryd.ntmps12
  go_wp2_with fail
  have HS1 := Aside0.mk (H0.out.step (W' := ((W.alloc (.cells #[.bool false, .int .u64 num, .string txt, .slice kA kn kc] 45)).drew)) (below_drew ((Below.refl _ _).alloc (Nat.le_refl _) _)))
  have hS0 := held_of HS1.out.blk
  refine start_ (n := 25) (S := Held g D R) (ds := [21, 24]) #[false, false, false, false, false, false, false, false, false, false, false, false, false, false, false, false, false, false, false, false, false, false, false, false, false] (by kernel_rfl) rfl rfl hS0 (fun hHeld => ?_)
  generalize HW1 : ((W.alloc (.cells #[.bool false, .int .u64 num, .string txt, .slice kA kn kc] 45)).drew) = w1 at HS1 hHeld ⊢
  clear HW1
  refine pure_ (i := 0) (N := some 65) (v := ?_) (a' := ?_) #[true, false, false, false, false, false, false, false, false, false, false, false, false, false, false, false, false, false, false, false, false, false, false, false, false] rfl rfl (by kernel_rfl) (fun _ _ _ h => h) (Or.inl ⟨by rfl, ?_⟩) ?_ ?_
  rotate_left
  · intro w'
    go_simp
    with_reducible rfl
  rotate_left
  · simp only [Act.put, List.setIfInBounds_toArray, List.set_cons_zero, List.set_cons_succ, i64_w, i32_w, ed1, ed, er]
    rfl
  refine pure_ (i := 1) (N := some 66) (v := ?_) (a' := ?_) #[true, true, false, false, false, false, false, false, false, false, false, false, false, false, false, false, false, false, false, false, false, false, false, false, false] rfl rfl (by kernel_rfl) (fun _ _ _ h => h) (Or.inl ⟨by rfl, ?_⟩) ?_ ?_
  rotate_left
  · intro w'
    go_simp
    with_reducible rfl
  rotate_left
  · simp only [Act.put, List.setIfInBounds_toArray, List.set_cons_zero, List.set_cons_succ, i64_w, i32_w, ed1, ed, er]
    rfl
  refine pure_ (i := 2) (N := some 67) (v := ?_) (a' := ?_) #[true, true, true, false, false, false, false, false, false, false, false, false, false, false, false, false, false, false, false, false, false, false, false, false, false] rfl rfl (by kernel_rfl) (fun _ _ _ h => h) (Or.inl ⟨by rfl, ?_⟩) ?_ ?_
  rotate_left
  · intro w'
    go_simp
    with_reducible rfl
  rotate_left
  · simp only [Act.put, List.setIfInBounds_toArray, List.set_cons_zero, List.set_cons_succ, i64_w, i32_w, ed1, ed, er]
    rfl
  refine pure_ (i := 3) (N := some 68) (v := ?_) (a' := ?_) #[true, true, true, true, false, false, false, false, false, false, false, false, false, false, false, false, false, false, false, false, false, false, false, false, false] rfl rfl (by kernel_rfl) (fun _ _ _ h => h) (Or.inl ⟨by rfl, ?_⟩) ?_ ?_
  rotate_left
  · intro w'
    go_simp
    with_reducible rfl
  rotate_left
  · simp only [Act.put, List.setIfInBounds_toArray, List.set_cons_zero, List.set_cons_succ, i64_w, i32_w, ed1, ed, er]
    rfl
  refine pure_ (i := 4) (N := some 69) (v := ?_) (a' := ?_) #[true, true, true, true, true, false, false, false, false, false, false, false, false, false, false, false, false, false, false, false, false, false, false, false, false] rfl rfl (by kernel_rfl) (fun _ _ _ h => h) (Or.inl ⟨by rfl, ?_⟩) ?_ ?_
  rotate_left
  · intro w'
    go_simp
    with_reducible rfl
  rotate_left
  · simp only [Act.put, List.setIfInBounds_toArray, List.set_cons_zero, List.set_cons_succ, i64_w, i32_w, ed1, ed, er]
    rfl
  refine pure_ (i := 6) (N := some 71) (v := ?_) (a' := ?_) #[true, true, true, true, true, false, true, false, false, false, false, false, false, false, false, false, false, false, false, false, false, false, false, false, false] rfl rfl (by kernel_rfl) (fun _ _ _ h => h) (Or.inl ⟨by rfl, ?_⟩) ?_ ?_
  rotate_left
  · intro w'
    go_simp
    with_reducible rfl
  rotate_left
  · simp only [Act.put, List.setIfInBounds_toArray, List.set_cons_zero, List.set_cons_succ, i64_w, i32_w, ed1, ed, er]
    rfl
  refine pure_ (i := 7) (N := some 72) (v := ?_) (a' := ?_) #[true, true, true, true, true, false, true, true, false, false, false, false, false, false, false, false, false, false, false, false, false, false, false, false, false] rfl rfl (by kernel_rfl) (fun _ _ _ h => h) (Or.inl ⟨by rfl, ?_⟩) ?_ ?_
  rotate_left
  · intro w'
    go_simp
    with_reducible rfl
  rotate_left
  · simp only [Act.put, List.setIfInBounds_toArray, List.set_cons_zero, List.set_cons_succ, i64_w, i32_w, ed1, ed, er]
    rfl
  refine pure_ (i := 8) (N := some 73) (v := ?_) (a' := ?_) #[true, true, true, true, true, false, true, true, true, false, false, false, false, false, false, false, false, false, false, false, false, false, false, false, false] rfl rfl (by kernel_rfl) (fun _ _ _ h => h) (Or.inl ⟨by rfl, ?_⟩) ?_ ?_
  rotate_left
  · intro w'
    go_simp
    with_reducible rfl
  rotate_left
  · simp only [Act.put, List.setIfInBounds_toArray, List.set_cons_zero, List.set_cons_succ, i64_w, i32_w, ed1, ed, er]
    rfl
  refine take_ (i := 5) (N := some 70) (v := ?_) (a' := ?_) #[true, true, true, true, true, true, true, true, true, false, false, false, false, false, false, false, false, false, false, false, false, false, false, false, false] rfl rfl (by kernel_rfl) (fun _ _ _ h => h) (Or.inl ⟨by rfl, ?_⟩) hHeld ?_ ?_
  rotate_left
  · intro w' s0
    obtain ⟨s0, s1, f0, f1⟩ := s0
    go_simp
    with_reducible rfl
  rotate_left
  · simp only [Act.put, List.setIfInBounds_toArray, List.set_cons_zero, List.set_cons_succ, i64_w, i32_w, ed1, ed, er]
    rfl
  refine pure_ (i := 11) (N := some 76) (v := ?_) (a' := ?_) #[true, true, true, true, true, true, true, true, true, false, false, true, false, false, false, false, false, false, false, false, false, false, false, false, false] rfl rfl (by kernel_rfl) (fun _ _ _ h => h) (Or.inl ⟨by rfl, ?_⟩) ?_ ?_
  rotate_left
  · intro w'
    go_simp
    with_reducible rfl
  rotate_left
  · simp only [Act.put, List.setIfInBounds_toArray, List.set_cons_zero, List.set_cons_succ, i64_w, i32_w, ed1, ed, er]
    rfl
  refine pure_ (i := 12) (N := some 77) (v := ?_) (a' := ?_) #[true, true, true, true, true, true, true, true, true, false, false, true, true, false, false, false, false, false, false, false, false, false, false, false, false] rfl rfl (by kernel_rfl) (fun _ _ _ h => h) (Or.inl ⟨by rfl, ?_⟩) ?_ ?_
  rotate_left
  · intro w'
    go_simp
    with_reducible rfl
  rotate_left
  · simp only [Act.put, List.setIfInBounds_toArray, List.set_cons_zero, List.set_cons_succ, i64_w, i32_w, ed1, ed, er]
    rfl
  refine pure_ (i := 13) (N := some 78) (v := ?_) (a' := ?_) #[true, true, true, true, true, true, true, true, true, false, false, true, true, true, false, false, false, false, false, false, false, false, false, false, false] rfl rfl (by kernel_rfl) (fun _ _ _ h => h) (Or.inl ⟨by rfl, ?_⟩) ?_ ?_
  rotate_left
  · intro w'
    go_simp
    with_reducible rfl
  rotate_left
  · simp only [Act.put, List.setIfInBounds_toArray, List.set_cons_zero, List.set_cons_succ, i64_w, i32_w, ed1, ed, er]
    rfl
  refine pure_ (i := 15) (N := some 80) (v := ?_) (a' := ?_) #[true, true, true, true, true, true, true, true, true, false, false, true, true, true, false, true, false, false, false, false, false, false, false, false, false] rfl rfl (by kernel_rfl) (fun _ _ _ h => h) (Or.inl ⟨by rfl, ?_⟩) ?_ ?_
  rotate_left
  · intro w'
    go_simp
    with_reducible rfl
  rotate_left
  · simp only [Act.put, List.setIfInBounds_toArray, List.set_cons_zero, List.set_cons_succ, i64_w, i32_w, ed1, ed, er]
    rfl
  refine pure_ (i := 16) (N := some 81) (v := ?_) (a' := ?_) #[true, true, true, true, true, true, true, true, true, false, false, true, true, true, false, true, true, false, false, false, false, false, false, false, false] rfl rfl (by kernel_rfl) (fun _ _ _ h => h) (Or.inl ⟨by rfl, ?_⟩) ?_ ?_
  rotate_left
  · intro w'
    go_simp
    with_reducible rfl
  rotate_left
  · simp only [Act.put, List.setIfInBounds_toArray, List.set_cons_zero, List.set_cons_succ, i64_w, i32_w, ed1, ed, er]
    rfl
  refine take_ (i := 14) (N := some 79) (v := ?_) (a' := ?_) #[true, true, true, true, true, true, true, true, true, false, false, true, true, true, true, true, true, false, false, false, false, false, false, false, false] rfl rfl (by kernel_rfl) (fun _ _ _ h => h) (Or.inl ⟨by rfl, ?_⟩) hHeld ?_ ?_
  rotate_left
  · intro w' s0
    obtain ⟨s0, s1, f0, f1⟩ := s0
    go_simp
    with_reducible rfl
  rotate_left
  · simp only [Act.put, List.setIfInBounds_toArray, List.set_cons_zero, List.set_cons_succ, i64_w, i32_w, ed1, ed, er]
    rfl
  have HA0 := Aside0.mk (St.start HS1.out)
  refine two_ (i := 9) (j := 17) (Ni := some 74) (Nj := some 82) #[true, true, true, true, true, true, true, true, true, true, false, true, true, true, true, true, true, false, false, false, false, false, false, false, false] #[true, true, true, true, true, true, true, true, true, false, false, true, true, true, true, true, true, true, false, false, false, false, false, false, false] rfl rfl rfl rfl (by kernel_rfl) (by decide) (by decide) (fun K hK => ?_) (fun K hK => ?_)
  · skip
    refine value_ (v := .slice (some ⟨w1.heap.size, 0, none⟩) 1 1) (w1 := w1.alloc (.cells #[.int .i16 (e : Int)] 60)) (by rfl) rfl (by go_simp) ?_
    have HA1 := Aside0.mk (HA0.out.build (e : Int))
    refine hK.out _ _ HA1.out.held (fun _ => ?_)
    clear hK K
    refine norm_ (a' := ?_) ?_ ?_
    rotate_left
    · simp only [Act.put, List.setIfInBounds_toArray, List.set_cons_zero, List.set_cons_succ]
      rfl
    generalize w1.alloc (.cells #[.int .i16 (e : Int)] 60) = w2 at HA1 ⊢
    refine two_ (i := 10) (j := 17) (Ni := some 75) (Nj := some 82) #[true, true, true, true, true, true, true, true, true, true, true, true, true, true, true, true, true, false, false, false, false, false, false, false, false] #[true, true, true, true, true, true, true, true, true, true, false, true, true, true, true, true, true, true, false, false, false, false, false, false, false] rfl rfl rfl rfl (by kernel_rfl) (by decide) (by decide) (fun K hK => ?_) (fun K hK => ?_)
    · skip
      refine appH (w0 := w0) w0.heap.size (some 75) rfl (by rfl) (.tmp 70) (.tmp 74) rfl _ _ w1.heap.size (e : Int) rfl rfl (HA1.out.lit _ _ (.inr ⟨rfl, rfl⟩)).1 HA1.out.d HA1.out.bel HA1.out.base_le hl1 (fun v1 w3 h1 h2 h3 h4 => ?_)
      have HA2 := Aside0.mk (HA1.out.appD h1 h2 h3 h4)
      clear h1 h2 h3 h4
      refine hK.out _ _ HA2.out.held (fun _ => ?_)
      clear hK K
      refine norm_ (a' := ?_) ?_ ?_
      rotate_left
      · simp only [Act.put, List.setIfInBounds_toArray, List.set_cons_zero, List.set_cons_succ]
        rfl
      refine one_ (i := 17) (N := some 82) #[true, true, true, true, true, true, true, true, true, true, true, true, true, true, true, true, true, true, false, false, false, false, false, false, false] rfl rfl (by kernel_rfl) (by decide) (fun K hK => ?_)
      refine value_ (v := .slice (some ⟨w3.heap.size, 0, none⟩) 1 1) (w1 := w3.alloc (.cells #[.int .i16 (r : Int)] 60)) (by rfl) rfl (by go_simp) ?_
      have HA3 := Aside0.mk (HA2.out.build (r : Int))
      refine hK.out _ _ HA3.out.held (fun _ => ?_)
      clear hK K
      refine norm_ (a' := ?_) ?_ ?_
      rotate_left
      · simp only [Act.put, List.setIfInBounds_toArray, List.set_cons_zero, List.set_cons_succ]
        rfl
      generalize w3.alloc (.cells #[.int .i16 (r : Int)] 60) = w4 at HA3 ⊢
      refine one_ (i := 18) (N := some 83) #[true, true, true, true, true, true, true, true, true, true, true, true, true, true, true, true, true, true, true, false, false, false, false, false, false] rfl rfl (by kernel_rfl) (by decide) (fun K hK => ?_)
      refine appH (w0 := w0) w0.heap.size (some 83) rfl (by rfl) (.tmp 79) (.tmp 82) rfl _ _ w3.heap.size (r : Int) rfl rfl (HA3.out.lit _ _ (.inr ⟨rfl, rfl⟩)).1 HA3.out.r HA3.out.bel HA3.out.base_le hl2 (fun v2 w5 h1 h2 h3 h4 => ?_)
      have HA4 := Aside0.mk (HA3.out.appR h1 h2 h3 h4)
      clear h1 h2 h3 h4
      refine hK.out _ _ HA4.out.held (fun _ => ?_)
      clear hK K
      refine norm_ (a' := ?_) ?_ ?_
      rotate_left
      · simp only [Act.put, List.setIfInBounds_toArray, List.set_cons_zero, List.set_cons_succ]
        rfl
      refine pure_ (i := 19) (N := some 84) (v := ?_) (a' := ?_) #[true, true, true, true, true, true, true, true, true, true, true, true, true, true, true, true, true, true, true, true, false, false, false, false, false] rfl rfl (by kernel_rfl) (fun _ _ _ h => h) (Or.inl ⟨by rfl, ?_⟩) ?_ ?_
      rotate_left
      · intro w'
        go_simp
        with_reducible rfl
      rotate_left
      · simp only [Act.put, List.setIfInBounds_toArray, List.set_cons_zero, List.set_cons_succ, i64_w, i32_w, ed1, ed, er]
        rfl
      refine pure_ (i := 20) (N := some 85) (v := ?_) (a' := ?_) #[true, true, true, true, true, true, true, true, true, true, true, true, true, true, true, true, true, true, true, true, true, false, false, false, false] rfl rfl (by kernel_rfl) (fun _ _ _ h => h) (Or.inl ⟨by rfl, ?_⟩) ?_ ?_
      rotate_left
      · intro w'
        go_simp
        with_reducible rfl
      rotate_left
      · simp only [Act.put, List.setIfInBounds_toArray, List.set_cons_zero, List.set_cons_succ, i64_w, i32_w, ed1, ed, er]
        rfl
      have h2 := HA4.out.two
      obtain ⟨p0, p1, p2, p3⟩ := held_of h2.blk
      have HF := Aside0.mk h2.done
      obtain ⟨A1, c1, hA1, _, _⟩ := Kd.R_reads h2.d
      obtain ⟨A2, c2, hA2, _, _⟩ := Kd.R_reads h2.r
      have p4 := blk_set h2.blk 0 v1
      obtain ⟨q0, q1, q2, q3⟩ := held_of p4
      clear h2 p4
      refine last_ (i := 21) (N := none) #[true, true, true, true, true, true, true, true, true, true, true, true, true, true, true, true, true, true, true, true, true, true, false, false, false] rfl rfl (by kernel_rfl) (by decide) (fun K hK => ?_)
      refine skip_ (w1 := w5.setCell ⟨g, 0, none⟩ v1) ?_ ?_ ?_ ?_
      · rfl
      · rfl
      · rw [hA1]
        go_simp
      refine hK.out _ _ ?_
      clear hK K
      refine pure_ (i := 22) (N := some 86) (v := ?_) (a' := ?_) #[true, true, true, true, true, true, true, true, true, true, true, true, true, true, true, true, true, true, true, true, true, true, true, false, false] rfl rfl (by kernel_rfl) (fun _ _ _ h => h) (Or.inl ⟨by rfl, ?_⟩) ?_ ?_
      rotate_left
      · intro w'
        go_simp
        with_reducible rfl
      rotate_left
      · simp only [Act.put, List.setIfInBounds_toArray, List.set_cons_zero, List.set_cons_succ, i64_w, i32_w, ed1, ed, er]
        rfl
      refine pure_ (i := 23) (N := some 87) (v := ?_) (a' := ?_) #[true, true, true, true, true, true, true, true, true, true, true, true, true, true, true, true, true, true, true, true, true, true, true, true, false] rfl rfl (by kernel_rfl) (fun _ _ _ h => h) (Or.inl ⟨by rfl, ?_⟩) ?_ ?_
      rotate_left
      · intro w'
        go_simp
        with_reducible rfl
      rotate_left
      · simp only [Act.put, List.setIfInBounds_toArray, List.set_cons_zero, List.set_cons_succ, i64_w, i32_w, ed1, ed, er]
        rfl
      refine last_ (i := 24) (N := none) #[true, true, true, true, true, true, true, true, true, true, true, true, true, true, true, true, true, true, true, true, true, true, true, true, true] rfl rfl (by kernel_rfl) (by decide) (fun K hK => ?_)
      refine skip_ (w1 := (w5.setCell ⟨g, 0, none⟩ v1).setCell ⟨g, 1, none⟩ v2) ?_ ?_ ?_ ?_
      · rfl
      · rfl
      · rw [hA2]
        go_simp
      refine hK.out _ _ ?_
      clear hK K
      refine done_ (by kernel_rfl) ?_
      clear p0 p1 p2 p3 q0 q1 q2 q3 hA1 hA2
      generalize (w5.setCell ⟨g, 0, none⟩ v1).setCell ⟨g, 1, none⟩ v2 = wf at HF ⊢
      go_end0; exact ⟨rfl, _, _, HF.out⟩
    · skip
      refine value_ (v := .slice (some ⟨w2.heap.size, 0, none⟩) 1 1) (w1 := w2.alloc (.cells #[.int .i16 (r : Int)] 60)) (by rfl) rfl (by go_simp) ?_
      have HA2 := Aside0.mk (HA1.out.build (r : Int))
      refine hK.out _ _ HA2.out.held (fun _ => ?_)
      clear hK K
      refine norm_ (a' := ?_) ?_ ?_
      rotate_left
      · simp only [Act.put, List.setIfInBounds_toArray, List.set_cons_zero, List.set_cons_succ]
        rfl
      generalize w2.alloc (.cells #[.int .i16 (r : Int)] 60) = w3 at HA2 ⊢
      refine one_ (i := 10) (N := some 75) #[true, true, true, true, true, true, true, true, true, true, true, true, true, true, true, true, true, true, false, false, false, false, false, false, false] rfl rfl (by kernel_rfl) (by decide) (fun K hK => ?_)
      refine appH (w0 := w0) w0.heap.size (some 75) rfl (by rfl) (.tmp 70) (.tmp 74) rfl _ _ w1.heap.size (e : Int) rfl rfl (HA2.out.lit _ _ (.inl (.inr ⟨rfl, rfl⟩))).1 HA2.out.d HA2.out.bel HA2.out.base_le hl1 (fun v1 w4 h1 h2 h3 h4 => ?_)
      have HA3 := Aside0.mk (HA2.out.appD h1 h2 h3 h4)
      clear h1 h2 h3 h4
      refine hK.out _ _ HA3.out.held (fun _ => ?_)
      clear hK K
      refine norm_ (a' := ?_) ?_ ?_
      rotate_left
      · simp only [Act.put, List.setIfInBounds_toArray, List.set_cons_zero, List.set_cons_succ]
        rfl
      refine one_ (i := 18) (N := some 83) #[true, true, true, true, true, true, true, true, true, true, true, true, true, true, true, true, true, true, true, false, false, false, false, false, false] rfl rfl (by kernel_rfl) (by decide) (fun K hK => ?_)
      refine appH (w0 := w0) w0.heap.size (some 83) rfl (by rfl) (.tmp 79) (.tmp 82) rfl _ _ w2.heap.size (r : Int) rfl rfl (HA3.out.lit _ _ (.inr ⟨rfl, rfl⟩)).1 HA3.out.r HA3.out.bel HA3.out.base_le hl2 (fun v2 w5 h1 h2 h3 h4 => ?_)
      have HA4 := Aside0.mk (HA3.out.appR h1 h2 h3 h4)
      clear h1 h2 h3 h4
      refine hK.out _ _ HA4.out.held (fun _ => ?_)
      clear hK K
      refine norm_ (a' := ?_) ?_ ?_
      rotate_left
      · simp only [Act.put, List.setIfInBounds_toArray, List.set_cons_zero, List.set_cons_succ]
        rfl
      refine pure_ (i := 19) (N := some 84) (v := ?_) (a' := ?_) #[true, true, true, true, true, true, true, true, true, true, true, true, true, true, true, true, true, true, true, true, false, false, false, false, false] rfl rfl (by kernel_rfl) (fun _ _ _ h => h) (Or.inl ⟨by rfl, ?_⟩) ?_ ?_
      rotate_left
      · intro w'
        go_simp
        with_reducible rfl
      rotate_left
      · simp only [Act.put, List.setIfInBounds_toArray, List.set_cons_zero, List.set_cons_succ, i64_w, i32_w, ed1, ed, er]
        rfl
      refine pure_ (i := 20) (N := some 85) (v := ?_) (a' := ?_) #[true, true, true, true, true, true, true, true, true, true, true, true, true, true, true, true, true, true, true, true, true, false, false, false, false] rfl rfl (by kernel_rfl) (fun _ _ _ h => h) (Or.inl ⟨by rfl, ?_⟩) ?_ ?_
      rotate_left
      · intro w'
        go_simp
        with_reducible rfl
      rotate_left
      · simp only [Act.put, List.setIfInBounds_toArray, List.set_cons_zero, List.set_cons_succ, i64_w, i32_w, ed1, ed, er]
        rfl
      have h2 := HA4.out.two
      obtain ⟨p0, p1, p2, p3⟩ := held_of h2.blk
      have HF := Aside0.mk h2.done
      obtain ⟨A1, c1, hA1, _, _⟩ := Kd.R_reads h2.d
      obtain ⟨A2, c2, hA2, _, _⟩ := Kd.R_reads h2.r
      have p4 := blk_set h2.blk 0 v1
      obtain ⟨q0, q1, q2, q3⟩ := held_of p4
      clear h2 p4
      refine last_ (i := 21) (N := none) #[true, true, true, true, true, true, true, true, true, true, true, true, true, true, true, true, true, true, true, true, true, true, false, false, false] rfl rfl (by kernel_rfl) (by decide) (fun K hK => ?_)
      refine skip_ (w1 := w5.setCell ⟨g, 0, none⟩ v1) ?_ ?_ ?_ ?_
      · rfl
      · rfl
      · rw [hA1]
        go_simp
      refine hK.out _ _ ?_
      clear hK K
      refine pure_ (i := 22) (N := some 86) (v := ?_) (a' := ?_) #[true, true, true, true, true, true, true, true, true, true, true, true, true, true, true, true, true, true, true, true, true, true, true, false, false] rfl rfl (by kernel_rfl) (fun _ _ _ h => h) (Or.inl ⟨by rfl, ?_⟩) ?_ ?_
      rotate_left
      · intro w'
        go_simp
        with_reducible rfl
      rotate_left
      · simp only [Act.put, List.setIfInBounds_toArray, List.set_cons_zero, List.set_cons_succ, i64_w, i32_w, ed1, ed, er]
        rfl
      refine pure_ (i := 23) (N := some 87) (v := ?_) (a' := ?_) #[true, true, true, true, true, true, true, true, true, true, true, true, true, true, true, true, true, true, true, true, true, true, true, true, false] rfl rfl (by kernel_rfl) (fun _ _ _ h => h) (Or.inl ⟨by rfl, ?_⟩) ?_ ?_
      rotate_left
      · intro w'
        go_simp
        with_reducible rfl
      rotate_left
      · simp only [Act.put, List.setIfInBounds_toArray, List.set_cons_zero, List.set_cons_succ, i64_w, i32_w, ed1, ed, er]
        rfl
      refine last_ (i := 24) (N := none) #[true, true, true, true, true, true, true, true, true, true, true, true, true, true, true, true, true, true, true, true, true, true, true, true, true] rfl rfl (by kernel_rfl) (by decide) (fun K hK => ?_)
      refine skip_ (w1 := (w5.setCell ⟨g, 0, none⟩ v1).setCell ⟨g, 1, none⟩ v2) ?_ ?_ ?_ ?_
      · rfl
      · rfl
      · rw [hA2]
        go_simp
      refine hK.out _ _ ?_
      clear hK K
      refine done_ (by kernel_rfl) ?_
      clear p0 p1 p2 p3 q0 q1 q2 q3 hA1 hA2
      generalize (w5.setCell ⟨g, 0, none⟩ v1).setCell ⟨g, 1, none⟩ v2 = wf at HF ⊢
      go_end0; exact ⟨rfl, _, _, HF.out⟩
  · skip
    refine value_ (v := .slice (some ⟨w1.heap.size, 0, none⟩) 1 1) (w1 := w1.alloc (.cells #[.int .i16 (r : Int)] 60)) (by rfl) rfl (by go_simp) ?_
    have HA1 := Aside0.mk (HA0.out.build (r : Int))
    refine hK.out _ _ HA1.out.held (fun _ => ?_)
    clear hK K
    refine norm_ (a' := ?_) ?_ ?_
    rotate_left
    · simp only [Act.put, List.setIfInBounds_toArray, List.set_cons_zero, List.set_cons_succ]
      rfl
    generalize w1.alloc (.cells #[.int .i16 (r : Int)] 60) = w2 at HA1 ⊢
    refine one_ (i := 9) (N := some 74) #[true, true, true, true, true, true, true, true, true, true, false, true, true, true, true, true, true, true, false, false, false, false, false, false, false] rfl rfl (by kernel_rfl) (by decide) (fun K hK => ?_)
    refine value_ (v := .slice (some ⟨w2.heap.size, 0, none⟩) 1 1) (w1 := w2.alloc (.cells #[.int .i16 (e : Int)] 60)) (by rfl) rfl (by go_simp) ?_
    have HA2 := Aside0.mk (HA1.out.build (e : Int))
    refine hK.out _ _ HA2.out.held (fun _ => ?_)
    clear hK K
    refine norm_ (a' := ?_) ?_ ?_
    rotate_left
    · simp only [Act.put, List.setIfInBounds_toArray, List.set_cons_zero, List.set_cons_succ]
      rfl
    generalize w2.alloc (.cells #[.int .i16 (e : Int)] 60) = w3 at HA2 ⊢
    refine one_ (i := 10) (N := some 75) #[true, true, true, true, true, true, true, true, true, true, true, true, true, true, true, true, true, true, false, false, false, false, false, false, false] rfl rfl (by kernel_rfl) (by decide) (fun K hK => ?_)
    refine appH (w0 := w0) w0.heap.size (some 75) rfl (by rfl) (.tmp 70) (.tmp 74) rfl _ _ w2.heap.size (e : Int) rfl rfl (HA2.out.lit _ _ (.inr ⟨rfl, rfl⟩)).1 HA2.out.d HA2.out.bel HA2.out.base_le hl1 (fun v1 w4 h1 h2 h3 h4 => ?_)
    have HA3 := Aside0.mk (HA2.out.appD h1 h2 h3 h4)
    clear h1 h2 h3 h4
    refine hK.out _ _ HA3.out.held (fun _ => ?_)
    clear hK K
    refine norm_ (a' := ?_) ?_ ?_
    rotate_left
    · simp only [Act.put, List.setIfInBounds_toArray, List.set_cons_zero, List.set_cons_succ]
      rfl
    refine one_ (i := 18) (N := some 83) #[true, true, true, true, true, true, true, true, true, true, true, true, true, true, true, true, true, true, true, false, false, false, false, false, false] rfl rfl (by kernel_rfl) (by decide) (fun K hK => ?_)
    refine appH (w0 := w0) w0.heap.size (some 83) rfl (by rfl) (.tmp 79) (.tmp 82) rfl _ _ w1.heap.size (r : Int) rfl rfl (HA3.out.lit _ _ (.inl (.inr ⟨rfl, rfl⟩))).1 HA3.out.r HA3.out.bel HA3.out.base_le hl2 (fun v2 w5 h1 h2 h3 h4 => ?_)
    have HA4 := Aside0.mk (HA3.out.appR h1 h2 h3 h4)
    clear h1 h2 h3 h4
    refine hK.out _ _ HA4.out.held (fun _ => ?_)
    clear hK K
    refine norm_ (a' := ?_) ?_ ?_
    rotate_left
    · simp only [Act.put, List.setIfInBounds_toArray, List.set_cons_zero, List.set_cons_succ]
      rfl
    refine pure_ (i := 19) (N := some 84) (v := ?_) (a' := ?_) #[true, true, true, true, true, true, true, true, true, true, true, true, true, true, true, true, true, true, true, true, false, false, false, false, false] rfl rfl (by kernel_rfl) (fun _ _ _ h => h) (Or.inl ⟨by rfl, ?_⟩) ?_ ?_
    rotate_left
    · intro w'
      go_simp
      with_reducible rfl
    rotate_left
    · simp only [Act.put, List.setIfInBounds_toArray, List.set_cons_zero, List.set_cons_succ, i64_w, i32_w, ed1, ed, er]
      rfl
    refine pure_ (i := 20) (N := some 85) (v := ?_) (a' := ?_) #[true, true, true, true, true, true, true, true, true, true, true, true, true, true, true, true, true, true, true, true, true, false, false, false, false] rfl rfl (by kernel_rfl) (fun _ _ _ h => h) (Or.inl ⟨by rfl, ?_⟩) ?_ ?_
    rotate_left
    · intro w'
      go_simp
      with_reducible rfl
    rotate_left
    · simp only [Act.put, List.setIfInBounds_toArray, List.set_cons_zero, List.set_cons_succ, i64_w, i32_w, ed1, ed, er]
      rfl
    have h2 := HA4.out.two
    obtain ⟨p0, p1, p2, p3⟩ := held_of h2.blk
    have HF := Aside0.mk h2.done
    obtain ⟨A1, c1, hA1, _, _⟩ := Kd.R_reads h2.d
    obtain ⟨A2, c2, hA2, _, _⟩ := Kd.R_reads h2.r
    have p4 := blk_set h2.blk 0 v1
    obtain ⟨q0, q1, q2, q3⟩ := held_of p4
    clear h2 p4
    refine last_ (i := 21) (N := none) #[true, true, true, true, true, true, true, true, true, true, true, true, true, true, true, true, true, true, true, true, true, true, false, false, false] rfl rfl (by kernel_rfl) (by decide) (fun K hK => ?_)
    refine skip_ (w1 := w5.setCell ⟨g, 0, none⟩ v1) ?_ ?_ ?_ ?_
    · rfl
    · rfl
    · rw [hA1]
      go_simp
    refine hK.out _ _ ?_
    clear hK K
    refine pure_ (i := 22) (N := some 86) (v := ?_) (a' := ?_) #[true, true, true, true, true, true, true, true, true, true, true, true, true, true, true, true, true, true, true, true, true, true, true, false, false] rfl rfl (by kernel_rfl) (fun _ _ _ h => h) (Or.inl ⟨by rfl, ?_⟩) ?_ ?_
    rotate_left
    · intro w'
      go_simp
      with_reducible rfl
    rotate_left
    · simp only [Act.put, List.setIfInBounds_toArray, List.set_cons_zero, List.set_cons_succ, i64_w, i32_w, ed1, ed, er]
      rfl
    refine pure_ (i := 23) (N := some 87) (v := ?_) (a' := ?_) #[true, true, true, true, true, true, true, true, true, true, true, true, true, true, true, true, true, true, true, true, true, true, true, true, false] rfl rfl (by kernel_rfl) (fun _ _ _ h => h) (Or.inl ⟨by rfl, ?_⟩) ?_ ?_
    rotate_left
    · intro w'
      go_simp
      with_reducible rfl
    rotate_left
    · simp only [Act.put, List.setIfInBounds_toArray, List.set_cons_zero, List.set_cons_succ, i64_w, i32_w, ed1, ed, er]
      rfl
    refine last_ (i := 24) (N := none) #[true, true, true, true, true, true, true, true, true, true, true, true, true, true, true, true, true, true, true, true, true, true, true, true, true] rfl rfl (by kernel_rfl) (by decide) (fun K hK => ?_)
    refine skip_ (w1 := (w5.setCell ⟨g, 0, none⟩ v1).setCell ⟨g, 1, none⟩ v2) ?_ ?_ ?_ ?_
    · rfl
    · rfl
    · rw [hA2]
      go_simp
    refine hK.out _ _ ?_
    clear hK K
    refine done_ (by kernel_rfl) ?_
    clear p0 p1 p2 p3 q0 q1 q2 q3 hA1 hA2
    generalize (w5.setCell ⟨g, 0, none⟩ v1).setCell ⟨g, 1, none⟩ v2 = wf at HF ⊢
    go_end0; exact ⟨rfl, _, _, HF.out⟩
set_option maxRecDepth 100000 in
set_option maxHeartbeats 4000000 in
theorem put_empty (n l d r : Nat) (hd : d < 1000) (hr : r < 1000) (v : V) (hln : l < n) (hk : v.kn = 0) (hv : v.nul = false) (w0 W : World) (g : Nat) (D R : Value) (ds rs : List Int) (h : Sh w0 W w0.heap.size g D R ds rs) (hl1 : ds.length ≤ 1099511627776) (hl2 : rs.length ≤ 1099511627776) :
    Calls Tryd.prog 12 #[.pointer (some ⟨g, 0, none⟩), v.agg, .int .i64 n, .int .i64 l, .int .i64 d, .int .i64 r] W (PutR w0 g (ds ++ [((d + 1 : Nat) : Int)]) (rs ++ [(r : Int)])) := by
  rcases v with ⟨nul, num, txt, kA, kn, kc⟩
  dsimp only at hv hk
  subst hv
  have H0 := Aside0.mk h
  have er : IntKind.i16.wrap (r : Int) = r := i16_small r (by omega)
  obtain ⟨e, he⟩ : ∃ e, d + 1 = e := ⟨_, rfl⟩
  have ed : IntKind.i16.wrap (e : Int) = e := i16_small e (by omega)
  have ed1 : wrap64 ((d : Int) + 1) = (e : Int) := by unfold wrap64; omega
  rw [he]
  subst hk
  have hne : ((l : Int) == (n : Int)) = false := by simp; omega
  clear h
  go_enter Tryd.func12, Tryd.ntmps12
  go_wp2_with fail
  have HS1 := Aside0.mk (H0.out.step (W' := ((W.alloc (.cells #[.bool false, .int .u64 num, .string txt, .slice kA 0 kc] 45)).drew)) (below_drew ((Below.refl _ _).alloc (Nat.le_refl _) _)))
  have hS0 := held_of HS1.out.blk
  refine start_ (n := 25) (S := Held g D R) (ds := [21, 24]) #[false, false, false, false, false, false, false, false, false, false, false, false, false, false, false, false, false, false, false, false, false, false, false, false, false] (by kernel_rfl) rfl rfl hS0 (fun hHeld => ?_)
  generalize HW1 : ((W.alloc (.cells #[.bool false, .int .u64 num, .string txt, .slice kA 0 kc] 45)).drew) = w1 at HS1 hHeld ⊢
  clear HW1
  refine pure_ (i := 0) (N := some 93) (v := ?_) (a' := ?_) #[true, false, false, false, false, false, false, false, false, false, false, false, false, false, false, false, false, false, false, false, false, false, false, false, false] rfl rfl (by kernel_rfl) (fun _ _ _ h => h) (Or.inl ⟨by rfl, ?_⟩) ?_ ?_
  rotate_left
  · intro w'
    go_simp
    with_reducible rfl
  rotate_left
  · simp only [Act.put, List.setIfInBounds_toArray, List.set_cons_zero, List.set_cons_succ, i64_w, i32_w, ed1, ed, er]
    rfl
  refine pure_ (i := 1) (N := some 94) (v := ?_) (a' := ?_) #[true, true, false, false, false, false, false, false, false, false, false, false, false, false, false, false, false, false, false, false, false, false, false, false, false] rfl rfl (by kernel_rfl) (fun _ _ _ h => h) (Or.inl ⟨by rfl, ?_⟩) ?_ ?_
  rotate_left
  · intro w'
    go_simp
    with_reducible rfl
  rotate_left
  · simp only [Act.put, List.setIfInBounds_toArray, List.set_cons_zero, List.set_cons_succ, i64_w, i32_w, ed1, ed, er]
    rfl
  refine pure_ (i := 2) (N := some 95) (v := ?_) (a' := ?_) #[true, true, true, false, false, false, false, false, false, false, false, false, false, false, false, false, false, false, false, false, false, false, false, false, false] rfl rfl (by kernel_rfl) (fun _ _ _ h => h) (Or.inl ⟨by rfl, ?_⟩) ?_ ?_
  rotate_left
  · intro w'
    go_simp
    with_reducible rfl
  rotate_left
  · simp only [Act.put, List.setIfInBounds_toArray, List.set_cons_zero, List.set_cons_succ, i64_w, i32_w, ed1, ed, er]
    rfl
  refine pure_ (i := 3) (N := some 96) (v := ?_) (a' := ?_) #[true, true, true, true, false, false, false, false, false, false, false, false, false, false, false, false, false, false, false, false, false, false, false, false, false] rfl rfl (by kernel_rfl) (fun _ _ _ h => h) (Or.inl ⟨by rfl, ?_⟩) ?_ ?_
  rotate_left
  · intro w'
    go_simp
    with_reducible rfl
  rotate_left
  · simp only [Act.put, List.setIfInBounds_toArray, List.set_cons_zero, List.set_cons_succ, i64_w, i32_w, ed1, ed, er]
    rfl
  refine pure_ (i := 4) (N := some 97) (v := ?_) (a' := ?_) #[true, true, true, true, true, false, false, false, false, false, false, false, false, false, false, false, false, false, false, false, false, false, false, false, false] rfl rfl (by kernel_rfl) (fun _ _ _ h => h) (Or.inl ⟨by rfl, ?_⟩) ?_ ?_
  rotate_left
  · intro w'
    go_simp
    with_reducible rfl
  rotate_left
  · simp only [Act.put, List.setIfInBounds_toArray, List.set_cons_zero, List.set_cons_succ, i64_w, i32_w, ed1, ed, er]
    rfl
  refine pure_ (i := 6) (N := some 99) (v := ?_) (a' := ?_) #[true, true, true, true, true, false, true, false, false, false, false, false, false, false, false, false, false, false, false, false, false, false, false, false, false] rfl rfl (by kernel_rfl) (fun _ _ _ h => h) (Or.inl ⟨by rfl, ?_⟩) ?_ ?_
  rotate_left
  · intro w'
    go_simp
    with_reducible rfl
  rotate_left
  · simp only [Act.put, List.setIfInBounds_toArray, List.set_cons_zero, List.set_cons_succ, i64_w, i32_w, ed1, ed, er]
    rfl
  refine pure_ (i := 7) (N := some 100) (v := ?_) (a' := ?_) #[true, true, true, true, true, false, true, true, false, false, false, false, false, false, false, false, false, false, false, false, false, false, false, false, false] rfl rfl (by kernel_rfl) (fun _ _ _ h => h) (Or.inl ⟨by rfl, ?_⟩) ?_ ?_
  rotate_left
  · intro w'
    go_simp
    with_reducible rfl
  rotate_left
  · simp only [Act.put, List.setIfInBounds_toArray, List.set_cons_zero, List.set_cons_succ, i64_w, i32_w, ed1, ed, er]
    rfl
  refine pure_ (i := 8) (N := some 101) (v := ?_) (a' := ?_) #[true, true, true, true, true, false, true, true, true, false, false, false, false, false, false, false, false, false, false, false, false, false, false, false, false] rfl rfl (by kernel_rfl) (fun _ _ _ h => h) (Or.inl ⟨by rfl, ?_⟩) ?_ ?_
  rotate_left
  · intro w'
    go_simp
    with_reducible rfl
  rotate_left
  · simp only [Act.put, List.setIfInBounds_toArray, List.set_cons_zero, List.set_cons_succ, i64_w, i32_w, ed1, ed, er]
    rfl
  refine take_ (i := 5) (N := some 98) (v := ?_) (a' := ?_) #[true, true, true, true, true, true, true, true, true, false, false, false, false, false, false, false, false, false, false, false, false, false, false, false, false] rfl rfl (by kernel_rfl) (fun _ _ _ h => h) (Or.inl ⟨by rfl, ?_⟩) hHeld ?_ ?_
  rotate_left
  · intro w' s0
    obtain ⟨s0, s1, f0, f1⟩ := s0
    go_simp
    with_reducible rfl
  rotate_left
  · simp only [Act.put, List.setIfInBounds_toArray, List.set_cons_zero, List.set_cons_succ, i64_w, i32_w, ed1, ed, er]
    rfl
  refine pure_ (i := 11) (N := some 104) (v := ?_) (a' := ?_) #[true, true, true, true, true, true, true, true, true, false, false, true, false, false, false, false, false, false, false, false, false, false, false, false, false] rfl rfl (by kernel_rfl) (fun _ _ _ h => h) (Or.inl ⟨by rfl, ?_⟩) ?_ ?_
  rotate_left
  · intro w'
    go_simp
    with_reducible rfl
  rotate_left
  · simp only [Act.put, List.setIfInBounds_toArray, List.set_cons_zero, List.set_cons_succ, i64_w, i32_w, ed1, ed, er]
    rfl
  refine pure_ (i := 12) (N := some 105) (v := ?_) (a' := ?_) #[true, true, true, true, true, true, true, true, true, false, false, true, true, false, false, false, false, false, false, false, false, false, false, false, false] rfl rfl (by kernel_rfl) (fun _ _ _ h => h) (Or.inl ⟨by rfl, ?_⟩) ?_ ?_
  rotate_left
  · intro w'
    go_simp
    with_reducible rfl
  rotate_left
  · simp only [Act.put, List.setIfInBounds_toArray, List.set_cons_zero, List.set_cons_succ, i64_w, i32_w, ed1, ed, er]
    rfl
  refine pure_ (i := 13) (N := some 106) (v := ?_) (a' := ?_) #[true, true, true, true, true, true, true, true, true, false, false, true, true, true, false, false, false, false, false, false, false, false, false, false, false] rfl rfl (by kernel_rfl) (fun _ _ _ h => h) (Or.inl ⟨by rfl, ?_⟩) ?_ ?_
  rotate_left
  · intro w'
    go_simp
    with_reducible rfl
  rotate_left
  · simp only [Act.put, List.setIfInBounds_toArray, List.set_cons_zero, List.set_cons_succ, i64_w, i32_w, ed1, ed, er]
    rfl
  refine pure_ (i := 15) (N := some 108) (v := ?_) (a' := ?_) #[true, true, true, true, true, true, true, true, true, false, false, true, true, true, false, true, false, false, false, false, false, false, false, false, false] rfl rfl (by kernel_rfl) (fun _ _ _ h => h) (Or.inl ⟨by rfl, ?_⟩) ?_ ?_
  rotate_left
  · intro w'
    go_simp
    with_reducible rfl
  rotate_left
  · simp only [Act.put, List.setIfInBounds_toArray, List.set_cons_zero, List.set_cons_succ, i64_w, i32_w, ed1, ed, er]
    rfl
  refine pure_ (i := 16) (N := some 109) (v := ?_) (a' := ?_) #[true, true, true, true, true, true, true, true, true, false, false, true, true, true, false, true, true, false, false, false, false, false, false, false, false] rfl rfl (by kernel_rfl) (fun _ _ _ h => h) (Or.inl ⟨by rfl, ?_⟩) ?_ ?_
  rotate_left
  · intro w'
    go_simp
    with_reducible rfl
  rotate_left
  · simp only [Act.put, List.setIfInBounds_toArray, List.set_cons_zero, List.set_cons_succ, i64_w, i32_w, ed1, ed, er]
    rfl
  refine take_ (i := 14) (N := some 107) (v := ?_) (a' := ?_) #[true, true, true, true, true, true, true, true, true, false, false, true, true, true, true, true, true, false, false, false, false, false, false, false, false] rfl rfl (by kernel_rfl) (fun _ _ _ h => h) (Or.inl ⟨by rfl, ?_⟩) hHeld ?_ ?_
  rotate_left
  · intro w' s0
    obtain ⟨s0, s1, f0, f1⟩ := s0
    go_simp
    with_reducible rfl
  rotate_left
  · simp only [Act.put, List.setIfInBounds_toArray, List.set_cons_zero, List.set_cons_succ, i64_w, i32_w, ed1, ed, er]
    rfl
  have HA0 := Aside0.mk (St.start HS1.out)
  refine two_ (i := 9) (j := 17) (Ni := some 102) (Nj := some 110) #[true, true, true, true, true, true, true, true, true, true, false, true, true, true, true, true, true, false, false, false, false, false, false, false, false] #[true, true, true, true, true, true, true, true, true, false, false, true, true, true, true, true, true, true, false, false, false, false, false, false, false] rfl rfl rfl rfl (by kernel_rfl) (by decide) (by decide) (fun K hK => ?_) (fun K hK => ?_)
  · skip
    refine value_ (v := .slice (some ⟨w1.heap.size, 0, none⟩) 1 1) (w1 := w1.alloc (.cells #[.int .i16 (e : Int)] 60)) (by rfl) rfl (by go_simp) ?_
    have HA1 := Aside0.mk (HA0.out.build (e : Int))
    refine hK.out _ _ HA1.out.held (fun _ => ?_)
    clear hK K
    refine norm_ (a' := ?_) ?_ ?_
    rotate_left
    · simp only [Act.put, List.setIfInBounds_toArray, List.set_cons_zero, List.set_cons_succ]
      rfl
    generalize w1.alloc (.cells #[.int .i16 (e : Int)] 60) = w2 at HA1 ⊢
    refine two_ (i := 10) (j := 17) (Ni := some 103) (Nj := some 110) #[true, true, true, true, true, true, true, true, true, true, true, true, true, true, true, true, true, false, false, false, false, false, false, false, false] #[true, true, true, true, true, true, true, true, true, true, false, true, true, true, true, true, true, true, false, false, false, false, false, false, false] rfl rfl rfl rfl (by kernel_rfl) (by decide) (by decide) (fun K hK => ?_) (fun K hK => ?_)
    · skip
      refine appH (w0 := w0) w0.heap.size (some 103) rfl (by rfl) (.tmp 98) (.tmp 102) rfl _ _ w1.heap.size (e : Int) rfl rfl (HA1.out.lit _ _ (.inr ⟨rfl, rfl⟩)).1 HA1.out.d HA1.out.bel HA1.out.base_le hl1 (fun v1 w3 h1 h2 h3 h4 => ?_)
      have HA2 := Aside0.mk (HA1.out.appD h1 h2 h3 h4)
      clear h1 h2 h3 h4
      refine hK.out _ _ HA2.out.held (fun _ => ?_)
      clear hK K
      refine norm_ (a' := ?_) ?_ ?_
      rotate_left
      · simp only [Act.put, List.setIfInBounds_toArray, List.set_cons_zero, List.set_cons_succ]
        rfl
      refine one_ (i := 17) (N := some 110) #[true, true, true, true, true, true, true, true, true, true, true, true, true, true, true, true, true, true, false, false, false, false, false, false, false] rfl rfl (by kernel_rfl) (by decide) (fun K hK => ?_)
      refine value_ (v := .slice (some ⟨w3.heap.size, 0, none⟩) 1 1) (w1 := w3.alloc (.cells #[.int .i16 (r : Int)] 60)) (by rfl) rfl (by go_simp) ?_
      have HA3 := Aside0.mk (HA2.out.build (r : Int))
      refine hK.out _ _ HA3.out.held (fun _ => ?_)
      clear hK K
      refine norm_ (a' := ?_) ?_ ?_
      rotate_left
      · simp only [Act.put, List.setIfInBounds_toArray, List.set_cons_zero, List.set_cons_succ]
        rfl
      generalize w3.alloc (.cells #[.int .i16 (r : Int)] 60) = w4 at HA3 ⊢
      refine one_ (i := 18) (N := some 111) #[true, true, true, true, true, true, true, true, true, true, true, true, true, true, true, true, true, true, true, false, false, false, false, false, false] rfl rfl (by kernel_rfl) (by decide) (fun K hK => ?_)
      refine appH (w0 := w0) w0.heap.size (some 111) rfl (by rfl) (.tmp 107) (.tmp 110) rfl _ _ w3.heap.size (r : Int) rfl rfl (HA3.out.lit _ _ (.inr ⟨rfl, rfl⟩)).1 HA3.out.r HA3.out.bel HA3.out.base_le hl2 (fun v2 w5 h1 h2 h3 h4 => ?_)
      have HA4 := Aside0.mk (HA3.out.appR h1 h2 h3 h4)
      clear h1 h2 h3 h4
      refine hK.out _ _ HA4.out.held (fun _ => ?_)
      clear hK K
      refine norm_ (a' := ?_) ?_ ?_
      rotate_left
      · simp only [Act.put, List.setIfInBounds_toArray, List.set_cons_zero, List.set_cons_succ]
        rfl
      refine pure_ (i := 19) (N := some 112) (v := ?_) (a' := ?_) #[true, true, true, true, true, true, true, true, true, true, true, true, true, true, true, true, true, true, true, true, false, false, false, false, false] rfl rfl (by kernel_rfl) (fun _ _ _ h => h) (Or.inl ⟨by rfl, ?_⟩) ?_ ?_
      rotate_left
      · intro w'
        go_simp
        with_reducible rfl
      rotate_left
      · simp only [Act.put, List.setIfInBounds_toArray, List.set_cons_zero, List.set_cons_succ, i64_w, i32_w, ed1, ed, er]
        rfl
      refine pure_ (i := 20) (N := some 113) (v := ?_) (a' := ?_) #[true, true, true, true, true, true, true, true, true, true, true, true, true, true, true, true, true, true, true, true, true, false, false, false, false] rfl rfl (by kernel_rfl) (fun _ _ _ h => h) (Or.inl ⟨by rfl, ?_⟩) ?_ ?_
      rotate_left
      · intro w'
        go_simp
        with_reducible rfl
      rotate_left
      · simp only [Act.put, List.setIfInBounds_toArray, List.set_cons_zero, List.set_cons_succ, i64_w, i32_w, ed1, ed, er]
        rfl
      have h2 := HA4.out.two
      obtain ⟨p0, p1, p2, p3⟩ := held_of h2.blk
      have HF := Aside0.mk h2.done
      obtain ⟨A1, c1, hA1, _, _⟩ := Kd.R_reads h2.d
      obtain ⟨A2, c2, hA2, _, _⟩ := Kd.R_reads h2.r
      have p4 := blk_set h2.blk 0 v1
      obtain ⟨q0, q1, q2, q3⟩ := held_of p4
      clear h2 p4
      refine last_ (i := 21) (N := none) #[true, true, true, true, true, true, true, true, true, true, true, true, true, true, true, true, true, true, true, true, true, true, false, false, false] rfl rfl (by kernel_rfl) (by decide) (fun K hK => ?_)
      refine skip_ (w1 := w5.setCell ⟨g, 0, none⟩ v1) ?_ ?_ ?_ ?_
      · rfl
      · rfl
      · rw [hA1]
        go_simp
      refine hK.out _ _ ?_
      clear hK K
      refine pure_ (i := 22) (N := some 114) (v := ?_) (a' := ?_) #[true, true, true, true, true, true, true, true, true, true, true, true, true, true, true, true, true, true, true, true, true, true, true, false, false] rfl rfl (by kernel_rfl) (fun _ _ _ h => h) (Or.inl ⟨by rfl, ?_⟩) ?_ ?_
      rotate_left
      · intro w'
        go_simp
        with_reducible rfl
      rotate_left
      · simp only [Act.put, List.setIfInBounds_toArray, List.set_cons_zero, List.set_cons_succ, i64_w, i32_w, ed1, ed, er]
        rfl
      refine pure_ (i := 23) (N := some 115) (v := ?_) (a' := ?_) #[true, true, true, true, true, true, true, true, true, true, true, true, true, true, true, true, true, true, true, true, true, true, true, true, false] rfl rfl (by kernel_rfl) (fun _ _ _ h => h) (Or.inl ⟨by rfl, ?_⟩) ?_ ?_
      rotate_left
      · intro w'
        go_simp
        with_reducible rfl
      rotate_left
      · simp only [Act.put, List.setIfInBounds_toArray, List.set_cons_zero, List.set_cons_succ, i64_w, i32_w, ed1, ed, er]
        rfl
      refine last_ (i := 24) (N := none) #[true, true, true, true, true, true, true, true, true, true, true, true, true, true, true, true, true, true, true, true, true, true, true, true, true] rfl rfl (by kernel_rfl) (by decide) (fun K hK => ?_)
      refine skip_ (w1 := (w5.setCell ⟨g, 0, none⟩ v1).setCell ⟨g, 1, none⟩ v2) ?_ ?_ ?_ ?_
      · rfl
      · rfl
      · rw [hA2]
        go_simp
      refine hK.out _ _ ?_
      clear hK K
      refine done_ (by kernel_rfl) ?_
      clear p0 p1 p2 p3 q0 q1 q2 q3 hA1 hA2
      generalize (w5.setCell ⟨g, 0, none⟩ v1).setCell ⟨g, 1, none⟩ v2 = wf at HF ⊢
      go_end0; exact ⟨rfl, _, _, HF.out⟩
    · skip
      refine value_ (v := .slice (some ⟨w2.heap.size, 0, none⟩) 1 1) (w1 := w2.alloc (.cells #[.int .i16 (r : Int)] 60)) (by rfl) rfl (by go_simp) ?_
      have HA2 := Aside0.mk (HA1.out.build (r : Int))
      refine hK.out _ _ HA2.out.held (fun _ => ?_)
      clear hK K
      refine norm_ (a' := ?_) ?_ ?_
      rotate_left
      · simp only [Act.put, List.setIfInBounds_toArray, List.set_cons_zero, List.set_cons_succ]
        rfl
      generalize w2.alloc (.cells #[.int .i16 (r : Int)] 60) = w3 at HA2 ⊢
      refine one_ (i := 10) (N := some 103) #[true, true, true, true, true, true, true, true, true, true, true, true, true, true, true, true, true, true, false, false, false, false, false, false, false] rfl rfl (by kernel_rfl) (by decide) (fun K hK => ?_)
      refine appH (w0 := w0) w0.heap.size (some 103) rfl (by rfl) (.tmp 98) (.tmp 102) rfl _ _ w1.heap.size (e : Int) rfl rfl (HA2.out.lit _ _ (.inl (.inr ⟨rfl, rfl⟩))).1 HA2.out.d HA2.out.bel HA2.out.base_le hl1 (fun v1 w4 h1 h2 h3 h4 => ?_)
      have HA3 := Aside0.mk (HA2.out.appD h1 h2 h3 h4)
      clear h1 h2 h3 h4
      refine hK.out _ _ HA3.out.held (fun _ => ?_)
      clear hK K
      refine norm_ (a' := ?_) ?_ ?_
      rotate_left
      · simp only [Act.put, List.setIfInBounds_toArray, List.set_cons_zero, List.set_cons_succ]
        rfl
      refine one_ (i := 18) (N := some 111) #[true, true, true, true, true, true, true, true, true, true, true, true, true, true, true, true, true, true, true, false, false, false, false, false, false] rfl rfl (by kernel_rfl) (by decide) (fun K hK => ?_)
      refine appH (w0 := w0) w0.heap.size (some 111) rfl (by rfl) (.tmp 107) (.tmp 110) rfl _ _ w2.heap.size (r : Int) rfl rfl (HA3.out.lit _ _ (.inr ⟨rfl, rfl⟩)).1 HA3.out.r HA3.out.bel HA3.out.base_le hl2 (fun v2 w5 h1 h2 h3 h4 => ?_)
      have HA4 := Aside0.mk (HA3.out.appR h1 h2 h3 h4)
      clear h1 h2 h3 h4
      refine hK.out _ _ HA4.out.held (fun _ => ?_)
      clear hK K
      refine norm_ (a' := ?_) ?_ ?_
      rotate_left
      · simp only [Act.put, List.setIfInBounds_toArray, List.set_cons_zero, List.set_cons_succ]
        rfl
      refine pure_ (i := 19) (N := some 112) (v := ?_) (a' := ?_) #[true, true, true, true, true, true, true, true, true, true, true, true, true, true, true, true, true, true, true, true, false, false, false, false, false] rfl rfl (by kernel_rfl) (fun _ _ _ h => h) (Or.inl ⟨by rfl, ?_⟩) ?_ ?_
      rotate_left
      · intro w'
        go_simp
        with_reducible rfl
      rotate_left
      · simp only [Act.put, List.setIfInBounds_toArray, List.set_cons_zero, List.set_cons_succ, i64_w, i32_w, ed1, ed, er]
        rfl
      refine pure_ (i := 20) (N := some 113) (v := ?_) (a' := ?_) #[true, true, true, true, true, true, true, true, true, true, true, true, true, true, true, true, true, true, true, true, true, false, false, false, false] rfl rfl (by kernel_rfl) (fun _ _ _ h => h) (Or.inl ⟨by rfl, ?_⟩) ?_ ?_
      rotate_left
      · intro w'
        go_simp
        with_reducible rfl
      rotate_left
      · simp only [Act.put, List.setIfInBounds_toArray, List.set_cons_zero, List.set_cons_succ, i64_w, i32_w, ed1, ed, er]
        rfl
      have h2 := HA4.out.two
      obtain ⟨p0, p1, p2, p3⟩ := held_of h2.blk
      have HF := Aside0.mk h2.done
      obtain ⟨A1, c1, hA1, _, _⟩ := Kd.R_reads h2.d
      obtain ⟨A2, c2, hA2, _, _⟩ := Kd.R_reads h2.r
      have p4 := blk_set h2.blk 0 v1
      obtain ⟨q0, q1, q2, q3⟩ := held_of p4
      clear h2 p4
      refine last_ (i := 21) (N := none) #[true, true, true, true, true, true, true, true, true, true, true, true, true, true, true, true, true, true, true, true, true, true, false, false, false] rfl rfl (by kernel_rfl) (by decide) (fun K hK => ?_)
      refine skip_ (w1 := w5.setCell ⟨g, 0, none⟩ v1) ?_ ?_ ?_ ?_
      · rfl
      · rfl
      · rw [hA1]
        go_simp
      refine hK.out _ _ ?_
      clear hK K
      refine pure_ (i := 22) (N := some 114) (v := ?_) (a' := ?_) #[true, true, true, true, true, true, true, true, true, true, true, true, true, true, true, true, true, true, true, true, true, true, true, false, false] rfl rfl (by kernel_rfl) (fun _ _ _ h => h) (Or.inl ⟨by rfl, ?_⟩) ?_ ?_
      rotate_left
      · intro w'
        go_simp
        with_reducible rfl
      rotate_left
      · simp only [Act.put, List.setIfInBounds_toArray, List.set_cons_zero, List.set_cons_succ, i64_w, i32_w, ed1, ed, er]
        rfl
      refine pure_ (i := 23) (N := some 115) (v := ?_) (a' := ?_) #[true, true, true, true, true, true, true, true, true, true, true, true, true, true, true, true, true, true, true, true, true, true, true, true, false] rfl rfl (by kernel_rfl) (fun _ _ _ h => h) (Or.inl ⟨by rfl, ?_⟩) ?_ ?_
      rotate_left
      · intro w'
        go_simp
        with_reducible rfl
      rotate_left
      · simp only [Act.put, List.setIfInBounds_toArray, List.set_cons_zero, List.set_cons_succ, i64_w, i32_w, ed1, ed, er]
        rfl
      refine last_ (i := 24) (N := none) #[true, true, true, true, true, true, true, true, true, true, true, true, true, true, true, true, true, true, true, true, true, true, true, true, true] rfl rfl (by kernel_rfl) (by decide) (fun K hK => ?_)
      refine skip_ (w1 := (w5.setCell ⟨g, 0, none⟩ v1).setCell ⟨g, 1, none⟩ v2) ?_ ?_ ?_ ?_
      · rfl
      · rfl
      · rw [hA2]
        go_simp
      refine hK.out _ _ ?_
      clear hK K
      refine done_ (by kernel_rfl) ?_
      clear p0 p1 p2 p3 q0 q1 q2 q3 hA1 hA2
      generalize (w5.setCell ⟨g, 0, none⟩ v1).setCell ⟨g, 1, none⟩ v2 = wf at HF ⊢
      go_end0; exact ⟨rfl, _, _, HF.out⟩
  · skip
    refine value_ (v := .slice (some ⟨w1.heap.size, 0, none⟩) 1 1) (w1 := w1.alloc (.cells #[.int .i16 (r : Int)] 60)) (by rfl) rfl (by go_simp) ?_
    have HA1 := Aside0.mk (HA0.out.build (r : Int))
    refine hK.out _ _ HA1.out.held (fun _ => ?_)
    clear hK K
    refine norm_ (a' := ?_) ?_ ?_
    rotate_left
    · simp only [Act.put, List.setIfInBounds_toArray, List.set_cons_zero, List.set_cons_succ]
      rfl
    generalize w1.alloc (.cells #[.int .i16 (r : Int)] 60) = w2 at HA1 ⊢
    refine one_ (i := 9) (N := some 102) #[true, true, true, true, true, true, true, true, true, true, false, true, true, true, true, true, true, true, false, false, false, false, false, false, false] rfl rfl (by kernel_rfl) (by decide) (fun K hK => ?_)
    refine value_ (v := .slice (some ⟨w2.heap.size, 0, none⟩) 1 1) (w1 := w2.alloc (.cells #[.int .i16 (e : Int)] 60)) (by rfl) rfl (by go_simp) ?_
    have HA2 := Aside0.mk (HA1.out.build (e : Int))
    refine hK.out _ _ HA2.out.held (fun _ => ?_)
    clear hK K
    refine norm_ (a' := ?_) ?_ ?_
    rotate_left
    · simp only [Act.put, List.setIfInBounds_toArray, List.set_cons_zero, List.set_cons_succ]
      rfl
    generalize w2.alloc (.cells #[.int .i16 (e : Int)] 60) = w3 at HA2 ⊢
    refine one_ (i := 10) (N := some 103) #[true, true, true, true, true, true, true, true, true, true, true, true, true, true, true, true, true, true, false, false, false, false, false, false, false] rfl rfl (by kernel_rfl) (by decide) (fun K hK => ?_)
    refine appH (w0 := w0) w0.heap.size (some 103) rfl (by rfl) (.tmp 98) (.tmp 102) rfl _ _ w2.heap.size (e : Int) rfl rfl (HA2.out.lit _ _ (.inr ⟨rfl, rfl⟩)).1 HA2.out.d HA2.out.bel HA2.out.base_le hl1 (fun v1 w4 h1 h2 h3 h4 => ?_)
    have HA3 := Aside0.mk (HA2.out.appD h1 h2 h3 h4)
    clear h1 h2 h3 h4
    refine hK.out _ _ HA3.out.held (fun _ => ?_)
    clear hK K
    refine norm_ (a' := ?_) ?_ ?_
    rotate_left
    · simp only [Act.put, List.setIfInBounds_toArray, List.set_cons_zero, List.set_cons_succ]
      rfl
    refine one_ (i := 18) (N := some 111) #[true, true, true, true, true, true, true, true, true, true, true, true, true, true, true, true, true, true, true, false, false, false, false, false, false] rfl rfl (by kernel_rfl) (by decide) (fun K hK => ?_)
    refine appH (w0 := w0) w0.heap.size (some 111) rfl (by rfl) (.tmp 107) (.tmp 110) rfl _ _ w1.heap.size (r : Int) rfl rfl (HA3.out.lit _ _ (.inl (.inr ⟨rfl, rfl⟩))).1 HA3.out.r HA3.out.bel HA3.out.base_le hl2 (fun v2 w5 h1 h2 h3 h4 => ?_)
    have HA4 := Aside0.mk (HA3.out.appR h1 h2 h3 h4)
    clear h1 h2 h3 h4
    refine hK.out _ _ HA4.out.held (fun _ => ?_)
    clear hK K
    refine norm_ (a' := ?_) ?_ ?_
    rotate_left
    · simp only [Act.put, List.setIfInBounds_toArray, List.set_cons_zero, List.set_cons_succ]
      rfl
    refine pure_ (i := 19) (N := some 112) (v := ?_) (a' := ?_) #[true, true, true, true, true, true, true, true, true, true, true, true, true, true, true, true, true, true, true, true, false, false, false, false, false] rfl rfl (by kernel_rfl) (fun _ _ _ h => h) (Or.inl ⟨by rfl, ?_⟩) ?_ ?_
    rotate_left
    · intro w'
      go_simp
      with_reducible rfl
    rotate_left
    · simp only [Act.put, List.setIfInBounds_toArray, List.set_cons_zero, List.set_cons_succ, i64_w, i32_w, ed1, ed, er]
      rfl
    refine pure_ (i := 20) (N := some 113) (v := ?_) (a' := ?_) #[true, true, true, true, true, true, true, true, true, true, true, true, true, true, true, true, true, true, true, true, true, false, false, false, false] rfl rfl (by kernel_rfl) (fun _ _ _ h => h) (Or.inl ⟨by rfl, ?_⟩) ?_ ?_
    rotate_left
    · intro w'
      go_simp
      with_reducible rfl
    rotate_left
    · simp only [Act.put, List.setIfInBounds_toArray, List.set_cons_zero, List.set_cons_succ, i64_w, i32_w, ed1, ed, er]
      rfl
    have h2 := HA4.out.two
    obtain ⟨p0, p1, p2, p3⟩ := held_of h2.blk
    have HF := Aside0.mk h2.done
    obtain ⟨A1, c1, hA1, _, _⟩ := Kd.R_reads h2.d
    obtain ⟨A2, c2, hA2, _, _⟩ := Kd.R_reads h2.r
    have p4 := blk_set h2.blk 0 v1
    obtain ⟨q0, q1, q2, q3⟩ := held_of p4
    clear h2 p4
    refine last_ (i := 21) (N := none) #[true, true, true, true, true, true, true, true, true, true, true, true, true, true, true, true, true, true, true, true, true, true, false, false, false] rfl rfl (by kernel_rfl) (by decide) (fun K hK => ?_)
    refine skip_ (w1 := w5.setCell ⟨g, 0, none⟩ v1) ?_ ?_ ?_ ?_
    · rfl
    · rfl
    · rw [hA1]
      go_simp
    refine hK.out _ _ ?_
    clear hK K
    refine pure_ (i := 22) (N := some 114) (v := ?_) (a' := ?_) #[true, true, true, true, true, true, true, true, true, true, true, true, true, true, true, true, true, true, true, true, true, true, true, false, false] rfl rfl (by kernel_rfl) (fun _ _ _ h => h) (Or.inl ⟨by rfl, ?_⟩) ?_ ?_
    rotate_left
    · intro w'
      go_simp
      with_reducible rfl
    rotate_left
    · simp only [Act.put, List.setIfInBounds_toArray, List.set_cons_zero, List.set_cons_succ, i64_w, i32_w, ed1, ed, er]
      rfl
    refine pure_ (i := 23) (N := some 115) (v := ?_) (a' := ?_) #[true, true, true, true, true, true, true, true, true, true, true, true, true, true, true, true, true, true, true, true, true, true, true, true, false] rfl rfl (by kernel_rfl) (fun _ _ _ h => h) (Or.inl ⟨by rfl, ?_⟩) ?_ ?_
    rotate_left
    · intro w'
      go_simp
      with_reducible rfl
    rotate_left
    · simp only [Act.put, List.setIfInBounds_toArray, List.set_cons_zero, List.set_cons_succ, i64_w, i32_w, ed1, ed, er]
      rfl
    refine last_ (i := 24) (N := none) #[true, true, true, true, true, true, true, true, true, true, true, true, true, true, true, true, true, true, true, true, true, true, true, true, true] rfl rfl (by kernel_rfl) (by decide) (fun K hK => ?_)
    refine skip_ (w1 := (w5.setCell ⟨g, 0, none⟩ v1).setCell ⟨g, 1, none⟩ v2) ?_ ?_ ?_ ?_
    · rfl
    · rfl
    · rw [hA2]
      go_simp
    refine hK.out _ _ ?_
    clear hK K
    refine done_ (by kernel_rfl) ?_
    clear p0 p1 p2 p3 q0 q1 q2 q3 hA1 hA2
    generalize (w5.setCell ⟨g, 0, none⟩ v1).setCell ⟨g, 1, none⟩ v2 = wf at HF ⊢
    go_end0; exact ⟨rfl, _, _, HF.out⟩

end Go.Proofs.YtcjobencclihdaaDoor.Lv
