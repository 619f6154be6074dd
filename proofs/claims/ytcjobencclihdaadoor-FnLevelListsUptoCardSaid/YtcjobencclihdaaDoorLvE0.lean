/- The thin package's lists: rows of the call's own, the deferred function. -/
import Derived.Test.YtcjobencclihdaaDoorLvDi
import Derived.Test.YtcjobencclihdaaDoorLvDj
namespace Go.Proofs.YtcjobencclihdaaDoor.Lv
open Go.RowKit Go.Proofs.YtcjobencclihdaaDoorW.PrintWords Go.Proofs.YtcjobencclihdaaDoorW.PrintLast Go.Proofs.YtcjobencclihdaaDoorW.PrintMore
set_option linter.unusedVariables false
set_option linter.unusedSimpArgs false

theorem wk_of {k : IntKind} {e base : Nat} {ok : Nat → Prop} {w : World} {v : Value} {xs : List Int} (h : Kd.R (Kd.int k) e w base ok v xs) (hx : 0 < xs.length) :
    ∃ g c rest, v = .slice (some ⟨g, 0, none⟩) xs.length c ∧ xs.length ≤ c ∧ base ≤ g ∧ WK k w g e rest xs ∧ xs.length + rest.length = c ∧ c ≤ maxLen := by
  obtain ⟨h1, h2⟩ := Kd.own_of_R h
  rcases h2 with ⟨_, h2⟩ | ⟨g, cap, cur, rfl, hb, hblk, hnc, hm, hsz, htk⟩
  · omega
  · rw [Nat.mul_one] at hsz htk
    refine ⟨g, cap, cur.toList.drop xs.length, rfl, hnc, hb, ?_, by simp; omega, hm⟩
    unfold WK
    rw [hblk]
    have : xs.map (Value.int k) ++ cur.toList.drop xs.length = cur.toList := by
      rw [show xs.map (Value.int k) = encs (Value.int k) xs from rfl, ← htk, List.take_append_drop]
    rw [this]
theorem wk_C {k : IntKind} {e : Nat} {w : World} {g c n : Nat} {rest : List Value} {xs : List Int} (h : WK k w g e rest xs) (hl : xs.length = n) (hc : n + rest.length = c) (hm : c ≤ maxLen) : Kd.C (Kd.int k) w (some ⟨g, 0, none⟩) n xs := by
  subst hl
  have ho : w.ownsRow 0 e 1 (.slice (some ⟨g, 0, none⟩) xs.length c) xs.length (encs (Value.int k) xs) := ⟨by simp [encs], .inr ⟨g, c, _, rfl, Nat.zero_le _, h, by omega, hm, by simp; omega, by simp [encs]⟩⟩
  have hr : (Kd.int k).R e w 0 (fun _ => True) (.slice (some ⟨g, 0, none⟩) xs.length c) xs := Kd.R_of_own ho (fun _ _ => trivial)
  obtain ⟨A, c', e', _, hC⟩ := Kd.R_reads hr
  cases e'
  exact hC
theorem idle (pl po : Addr) (w : World) :
    CallsD Tryd.prog 13 #[.pointer (some pl), .pointer (some po)] .returning w fun e u' w' => e = .returned (.tuple #[]) ∧ u' = .returning ∧ w' = w := by
  refine callsD_of_wpS Tryd.func13 rfl fun c₀ cs hu => ?_
  apply wpS_seq
  apply wpS_region
  simp [wpOpsS, go_sem, recoverD, hu, Tryd.ntmps13, Exit.thenS]
  refine wpS_cond (t := false) (by simp [Act.eval, Array.replicate]) ?_
  simp only [Bool.false_eq_true, if_false]
  refine wpS_of_wp (wp_skip ?_)
  cases c₀
  simp_all [bodyPostS, results, Tryd.results13]
def toldV (rd nl : Nat) (A : Option Addr) (n c : Nat) : Value := .agg #[.int .i64 rd, .int .i64 nl, .slice A n c]
/-- What the thin package hands back. -/
def RetLL (k : IntKind) (w : World) (nb N a : Nat) (st : List (Bool × Nat)) (e : Ending) (w' : World) : Prop :=
  ∃ q c p cp bs, e = .returned (.tuple #[toldV N (nuls st) (some ⟨q, 0, none⟩) nb c, .slice (some ⟨p, 0, none⟩) (N + 1) cp, .bool true]) ∧ nb ≤ c ∧ N + 1 ≤ cp ∧
    Kd.C (Kd.int .u8) w' (some ⟨q, 0, none⟩) nb bs ∧ (∀ i, i < a + N → bitAt bs i = (bitsOf a st).getD i false) ∧ Kd.C (Kd.int k) w' (some ⟨p, 0, none⟩) (N + 1) (offs N st) ∧ Below w.heap.size w w' ∧ w.heap.size ≤ q ∧ w.heap.size ≤ p
theorem four_blocks (w : World) (o1 o2 o3 o4 : Obj) : ((((w.alloc o1).alloc o2).alloc o3).alloc o4).heap[w.heap.size]? = some o1 ∧ ((((w.alloc o1).alloc o2).alloc o3).alloc o4).heap[w.heap.size + 1 + 1]? = some o3 ∧ ((((w.alloc o1).alloc o2).alloc o3).alloc o4).heap[w.heap.size + 1 + 1 + 1]? = some o4 ∧
    ((((w.alloc o1).alloc o2).alloc o3).alloc o4).heap.size = w.heap.size + 1 + 1 + 1 + 1 ∧ Below w.heap.size w ((((w.alloc o1).alloc o2).alloc o3).alloc o4) := by
  have h1 := heap_alloc_new w o1
  have h3 := heap_alloc_new ((w.alloc o1).alloc o2) o3
  have h4 := heap_alloc_new (((w.alloc o1).alloc o2).alloc o3) o4
  have e2 := Below.heap_alloc (w.alloc o1) o2 w.heap.size (by simp)
  have e3 := Below.heap_alloc ((w.alloc o1).alloc o2) o3 w.heap.size (by simp; omega)
  have e4 := Below.heap_alloc (((w.alloc o1).alloc o2).alloc o3) o4 w.heap.size (by simp; omega)
  have f4 := Below.heap_alloc (((w.alloc o1).alloc o2).alloc o3) o4 (w.heap.size + 1 + 1) (by simp)
  refine ⟨e4.trans (e3.trans (e2.trans h1)), f4.trans (by simpa using h3), by simpa using h4, by simp, ?_⟩
  exact ((((Below.refl _ _).alloc (Nat.le_refl _) _).alloc (by simp) _).alloc (by simp; omega) _).alloc (by simp; omega) _

end Go.Proofs.YtcjobencclihdaaDoor.Lv
