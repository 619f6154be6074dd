/- The package's joining at a width; the thin package's deferred function; words. -/
import Derived.Test.YtldkpgjpfhoekaaJrUH
import Derived.Test.YtldkpgjpfhoekaaJrUW
import Derived.Test.YtldkpgjpfhoekaaJrUD
import Derived.OrdersHeld
namespace Go.Proofs.Ytldkpgjpfhoekaa.Join
open Go.RowKit Go.Proofs.YtldkpgjpfhoekaaW.PrintWords Go.Proofs.YtldkpgjpfhoekaaW.PrintLast Go.Proofs.YtldkpgjpfhoekaaW.PrintMore
set_option linter.unusedVariables false
set_option linter.unusedSimpArgs false

def usz (z : Nat) (l : List Int) : List Int := l.map (fun x => x % (256 : Int) ^ z)
theorem usz2 : usz 2 = usHL := by funext l; rfl
theorem usz4 : usz 4 = usWL := by funext l; rfl
theorem usz8 : usz 8 = usDL := by funext l; rfl
theorem usz_len (z : Nat) (l : List Int) : (usz z l).length = l.length := by simp [usz]
set_option maxRecDepth 100000 in
set_option maxHeartbeats 4000000 in
theorem updateRunEnds (z : Nat) (hz : z = 2 ∨ z = 4 ∨ z = 8) (A B : Option Addr) (n cA cB b0 p M N : Nat) (ol : List (Int × Int)) (es : List (List Int)) (w : World)
    (hD : Kd.C kD w A n ol) (hB : Kd.C kB w B n (es.map (fun E => bytesL z (usz z E)))) (hb : IsBuf w b0 (some ⟨p, 0, none⟩) N N) (hw : W8 w p 5 [] (fill [] 0 N))
    (hM : (jn ol es n).length = M) (hN : N = M * z) (hf : Fit ol es n) (hcA : n ≤ cA) (hcB : n ≤ cB) :
    Calls Try.prog 13 #[.int .i64 z, .slice A n cA, .slice B n cB, .pointer (some ⟨b0, 0, none⟩)] w (Joined p z (usz z (jn ol es n)) w) := by
  rcases hz with rfl | rfl | rfl
  · rw [usz2] at hB ⊢
    have HC := Aside0.mk (updateRunsH A B n cA cB b0 p M N ol es w hD hB hb hw hM hN hf hcA hcB)
    clear hD hB hb hw hM hN hf hcA hcB
    have HI := Aside0.mk (show Calls Try.prog 16 #[.int .i64 (2 : Nat), .slice A n cA, .slice B n cB, .pointer (some ⟨b0, 0, none⟩)] w (Joined p 2 (usHL (jn ol es n)) w) by
      go_enter Try.func16, Try.ntmps16
      go_wp2_with (go_at_call 18; refine (HC.out).mono ?_; rintro e w2 ⟨rfl, hg2, hw2⟩; have HG2 := Aside0.mk (And.intro hg2 hw2); clear hg2 hw2)
      go_ret
      exact ⟨rfl, HG2.out.1, HG2.out.2⟩)
    go_enter Try.func13, Try.ntmps13
    go_wp2_with (go_at_call 16; refine (HI.out).mono ?_; rintro e w2 ⟨rfl, hg2, hw2⟩; have HG2 := Aside0.mk (And.intro hg2 hw2); clear hg2 hw2)
    go_ret
    exact ⟨rfl, HG2.out.1, HG2.out.2⟩
  · rw [usz4] at hB ⊢
    have HC := Aside0.mk (updateRunsW A B n cA cB b0 p M N ol es w hD hB hb hw hM hN hf hcA hcB)
    clear hD hB hb hw hM hN hf hcA hcB
    have HI := Aside0.mk (show Calls Try.prog 16 #[.int .i64 (4 : Nat), .slice A n cA, .slice B n cB, .pointer (some ⟨b0, 0, none⟩)] w (Joined p 4 (usWL (jn ol es n)) w) by
      go_enter Try.func16, Try.ntmps16
      go_wp2_with (go_at_call 19; refine (HC.out).mono ?_; rintro e w2 ⟨rfl, hg2, hw2⟩; have HG2 := Aside0.mk (And.intro hg2 hw2); clear hg2 hw2)
      go_ret
      exact ⟨rfl, HG2.out.1, HG2.out.2⟩)
    go_enter Try.func13, Try.ntmps13
    go_wp2_with (go_at_call 16; refine (HI.out).mono ?_; rintro e w2 ⟨rfl, hg2, hw2⟩; have HG2 := Aside0.mk (And.intro hg2 hw2); clear hg2 hw2)
    go_ret
    exact ⟨rfl, HG2.out.1, HG2.out.2⟩
  · rw [usz8] at hB ⊢
    have HC := Aside0.mk (updateRunsD A B n cA cB b0 p M N ol es w hD hB hb hw hM hN hf hcA hcB)
    clear hD hB hb hw hM hN hf hcA hcB
    have HI := Aside0.mk (show Calls Try.prog 16 #[.int .i64 (8 : Nat), .slice A n cA, .slice B n cB, .pointer (some ⟨b0, 0, none⟩)] w (Joined p 8 (usDL (jn ol es n)) w) by
      go_enter Try.func16, Try.ntmps16
      go_wp2_with (go_at_call 20; refine (HC.out).mono ?_; rintro e w2 ⟨rfl, hg2, hw2⟩; have HG2 := Aside0.mk (And.intro hg2 hw2); clear hg2 hw2)
      go_ret
      exact ⟨rfl, HG2.out.1, HG2.out.2⟩)
    go_enter Try.func13, Try.ntmps13
    go_wp2_with (go_at_call 16; refine (HI.out).mono ?_; rintro e w2 ⟨rfl, hg2, hw2⟩; have HG2 := Aside0.mk (And.intro hg2 hw2); clear hg2 hw2)
    go_ret
    exact ⟨rfl, HG2.out.1, HG2.out.2⟩
/-! ### the deferred function -/
theorem idle (pl po : Addr) (w : World) :
    CallsD Try.prog 10 #[.pointer (some pl), .pointer (some po)] .returning w fun e u' w' => e = .returned (.tuple #[]) ∧ u' = .returning ∧ w' = w := by
  refine callsD_of_wpS Try.func10 rfl fun c₀ cs hu => ?_
  apply wpS_seq
  apply wpS_region
  simp [wpOpsS, go_sem, recoverD, hu, Try.ntmps10, Exit.thenS]
  refine wpS_cond (t := false) (by simp [Act.eval, Array.replicate]) ?_
  simp only [Bool.false_eq_true, if_false]
  refine wpS_of_wp (wp_skip ?_)
  cases c₀
  simp_all [bodyPostS, results, Try.results10]
/-- The call's two results' cells, and what was there at its begin. -/
structure Fra (w W : World) (v : Value) : Prop where
  c0 : W.heap[w.heap.size]? = some (.cells #[v] 24 (0, 0))
  c1 : W.heap[w.heap.size + 1]? = some (.cells #[.bool false] 4 (0, 0))
  bel : Below w.heap.size w W
theorem Fra.step {w W W' : World} {v : Value} (h : Fra w W v) (hb : Below W.heap.size W W') : Fra w W' v := ⟨(hb.block _ (block_lt h.c0)).trans h.c0, (hb.block _ (block_lt h.c1)).trans h.c1, h.bel.trans (hb.mono h.bel.size)⟩
theorem Fra.grown {w W W' : World} {v : Value} {g : Nat} (h : Fra w W v) (hg : W.grownBy W' (some g)) (h2 : w.heap.size + 2 ≤ g) : Fra w W' v :=
  ⟨(hg.block _ (block_lt h.c0) (fun e => by injection e; omega)).trans h.c0, (hg.block _ (block_lt h.c1) (fun e => by injection e; omega)).trans h.c1,
    ⟨hg.os.trans h.bel.os, hg.tape.trans h.bel.tape, hg.output.trans h.bel.output, Nat.le_trans h.bel.size hg.size, fun i hi => (hg.block i (Nat.lt_of_lt_of_le hi h.bel.size) (fun e => by injection e; omega)).trans (h.bel.block i hi)⟩⟩
theorem fra0 (w : World) (v : Value) : Fra w ((w.alloc (.cells #[v] 24)).alloc (.cells #[.bool false] 4)) v :=
  ⟨(two_blocks w _ _).1, (two_blocks w _ _).2, ((Below.refl _ _).alloc (Nat.le_refl _) _).alloc (by simp) _⟩
theorem made8 (w : World) (n : Nat) : W8 (w.alloc (.cells (madeCells #[.int .u8 0] n) 5)) w.heap.size 5 [] (fill [] 0 n) := by
  unfold W8
  rw [List.append_nil, ← made_fill (Value.int .u8) (0 : Int) n]
  exact heap_alloc_new _ _
theorem w8_below {w w' : World} {g : Nat} {T : TypeId} {rest : List Value} {bs : List Int} (h : W8 w g T rest bs) (hb : Below w.heap.size w w') : W8 w' g T rest bs := (hb.block g (block_lt h)).trans h
theorem w8_reads {w : World} {g n : Nat} {T : TypeId} {rest : List Value} {bs : List Int} (h : W8 w g T rest bs) (hn : bs.length = n) (hs : n ≤ 100000) : ReadsOf (Value.int .u8) (0 : Int) w (some ⟨g, 0, none⟩) n bs := by
  refine ⟨hn, by omega, fun _ => ⟨_, rfl, fun j hj => ?_⟩⟩
  rw [add_plain]
  exact h.cell j (by omega)
/-- What goes in: parts, their bytes, the ends that these are. -/
structure Goes (w : World) (A : Option Addr) (n : Nat) (ps : List Pt) (z : Nat) (es : List (List Int)) : Prop where
  z3 : z = 2 ∨ z = 4 ∨ z = 8
  row : Kd.C kP w A n ps
  has : ∀ k, k < n → (gp ps k).has = true
  bts : Bts w ps (es.map (fun E => bytesL z (usz z E)))
  fit : Fit (ps.map offLen) es n
def RetJ (z : Nat) (l : List Int) (w : World) (e : Ending) (w' : World) : Prop := ∃ A c, e = .returned (.tuple #[.slice A (l.length * z) c, .bool true]) ∧ l.length * z ≤ c ∧ Kd.C (Kd.int .u8) w' A (l.length * z) (bytesL z (usz z l)) ∧ Below w.heap.size w w'
section
variable {ops : Array Oper} {o : Oper} {a : Act} {Q : Exit → Act → World → Prop} {Kc : Act → World → Prop}
theorem appBs {w0 W : World} (base : Nat) (hgd : o.guard = none) (s x : Operand)
    (ho : o.op = .call { callee := .builtin .append, args := #[s, x], argTypes := #[38, 38] })
    (v : Value) (xs : List (List Int)) (b : Nat) (B : Option Addr) (c : Nat) (y : List Int) (H : Nat) (hH : W.heap.size = H) (hs : a.eval s = v) (hx : a.eval x = .slice (some ⟨H, 0, none⟩) 1 1) (hb : IsBuf W b B y.length c) (hbb : base ≤ b)
    (hr : Kd.R (Kd.int .u8) 5 W base (fun _ => True) (.slice B y.length c) y)
    (HO : Kd.R kB 39 W base (fun _ => True) v xs) (HB : Below base w0 W) (hbase : base ≤ W.heap.size) (hl : xs.length ≤ 1000)
    (h : ∀ v1 w1, Kd.R kB 39 w1 base (fun _ => True) v1 (xs ++ [y]) → Below base w0 w1 → W.grownBy w1 v.ownBlock → Kc (a.put o.dst v1) w1) :
    if Region.wanted o (yielded ops a.tmps) = true then Oper.wp Try.prog o a (W.alloc (.cells #[.pointer (some ⟨b, 0, none⟩)] 39)) Kc Q else Kc (a.put o.dst undef) (W.alloc (.cells #[.pointer (some ⟨b, 0, none⟩)] 39)) := by
  have hne := Kd.R_ne HO hb (by decide)
  refine Kd.R_append_step kB base (by simp [Region.wanted, hgd]) s x 38 39 (.pointer none) 8 ho Try.underlying38 info39 rfl (by decide) (by omega) v xs y [.pointer (some ⟨b, 0, none⟩)] (fun _ => True) (fun k => some k ≠ v.ownBlock) hs (by rw [hH]; exact hx) ⟨b, B, c, rfl, hb, hne, hbb, Kd.R_mono (Kd.R_bound hr) ?_⟩ (fun k hk => ⟨trivial, hk⟩) (fun _ _ => trivial) HO HB hbase (by omega) (fun v1 w1 h1 h2 h3 _ => h v1 w1 h1 h2 ((World.grownBy.trans (World.grownBy.refl _ _) h3)))
  rintro k ⟨_, _, _, q, hq, cells, hc⟩
  have hq5 : q = 5 := by simpa [Kd.int, Kd.scalar] using hq
  subst hq5
  exact Kd.R_ne HO hc (by decide)
end
theorem reads_n {α : Type} {d : Kd α} {e base n : Nat} {ok : Nat → Prop} {w : World} {v : Value} {xs : List α} (hn : xs.length = n) (h : Kd.R d e w base ok v xs) : ∃ A c, v = .slice A n c ∧ n ≤ c ∧ Kd.C d w A n xs := by
  subst hn
  exact Kd.R_reads h

end Go.Proofs.Ytldkpgjpfhoekaa.Join
