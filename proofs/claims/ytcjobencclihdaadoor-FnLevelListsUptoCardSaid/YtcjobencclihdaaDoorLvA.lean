/- The values at a level. -/
import Derived.Test.YtcjobencclihdaaDoorLvW
namespace Go.Proofs.YtcjobencclihdaaDoor.Lv
open Go.RowKit Go.Proofs.YtcjobencclihdaaDoorW.PrintWords Go.Proofs.YtcjobencclihdaaDoorW.PrintLast Go.Proofs.YtcjobencclihdaaDoorW.PrintMore
set_option linter.unusedVariables false
set_option linter.unusedSimpArgs false

theorem atT_succ (j : Nat) : ∀ ts : List T, atT (j + 1) ts = (atT j ts).flatMap T.kids := by
  induction j with
  | zero => intro ts; rfl
  | succ j ih => intro ts; rw [atT, ih]; rfl
theorem flat_snoc (ts : List T) (x : Nat) (h : x < ts.length) : (ts.take (x + 1)).flatMap T.kids = (ts.take x).flatMap T.kids ++ (ts.getD x (.mk false [])).kids := by
  rw [List.take_succ_eq_append_getElem h, List.flatMap_append]
  simp [List.getD_eq_getElem?_getD, List.getElem?_eq_getElem h]
theorem flat_len (ts : List T) (x : Nat) : ((ts.take x).flatMap T.kids).length ≤ (ts.flatMap T.kids).length := by
  have : ts.flatMap T.kids = (ts.take x).flatMap T.kids ++ (ts.drop x).flatMap T.kids := by rw [← List.flatMap_append, List.take_append_drop]
  rw [this, List.length_append]
  omega
theorem reads_n {α : Type} {d : Kd α} {e base n : Nat} {ok : Nat → Prop} {w : World} {v : Value} {xs : List α} (hn : xs.length = n) (h : Kd.R d e w base ok v xs) : ∃ A c, v = .slice A n c ∧ n ≤ c ∧ Kd.C d w A n xs := by
  subst hn
  exact Kd.R_reads h
def RetAt (D k : Nat) (ts : List T) (w : World) (e : Ending) (w' : World) : Prop := ∃ A c vs, e = .returned (.slice A (atT k ts).length c) ∧ (atT k ts).length ≤ c ∧ Row w' D A (atT k ts).length vs (atT k ts) ∧ Below w.heap.size w w'
set_option maxRecDepth 100000 in
set_option maxHeartbeats 2000000 in
theorem at_fn (D k : Nat) (A : Option Addr) (n c : Nat) (vs : List V) (ts : List T) (w : World) (h : Row w (D + k) A n vs ts) (hc : n ≤ c) (hk : k ≤ 10) (hs : ∀ j, j ≤ k → (atT j ts).length ≤ 1048576) :
    Calls Tryd.prog 6 #[.slice A n c, .int .i64 k] w (RetAt D k ts w) := by
  have H0 := Aside0.mk h
  have HS := Aside0.mk hs
  clear h hs
  go_enter Tryd.func6, Tryd.ntmps6
  go_wp2_with fail
  go_loopw [0, 9] (fun rows i wr => ∃ (j : Nat) (Aj : Option Addr) (m cj : Nat), j ≤ k ∧ i = .int .i64 j ∧ rows = .slice Aj m cj ∧ m ≤ cj ∧ Aside0 (∃ vj, Row wr (D + (k - j)) Aj m vj (atT j ts)) ∧ Aside0 (Below w.heap.size w wr)) (fun _ i _ => k - (intOf i).toNat)
  case atStart => exact ⟨0, A, n, c, Nat.zero_le _, rfl, rfl, hc, ⟨vs, by rw [Nat.sub_zero]; exact H0.out⟩, ⟨Below.refl _ _⟩⟩
  case round =>
    obtain ⟨j, Aj, m, cj, hj, rfl, rfl, hmc, HR, HB⟩ := hrel
    by_cases hlt : j < k
    · rename World => wj
      obtain ⟨vj, hrow⟩ := HR.out
      have hl1 := hrow.len
      have hm := HS.out j hj
      have hm2 := HS.out (j + 1) (by omega)
      rw [atT_succ] at hm2
      have HJ := Aside0.mk (atT_succ j ts)
      rw [show k - j = (k - (j + 1)) + 1 by omega] at hrow
      have HRow := Aside0.mk hrow
      generalize atT j ts = tj at hrow hl1 hm hm2 HRow HJ HR
      have hmm : m ≤ 1048576 := by omega
      have HL := Aside0.mk hl1
      have HM2 := Aside0.mk hm2
      clear hrow hl1 HR hm hm2
      go_wp2_with fail
      go_loopw [5, 13] (fun nx i wr => ∃ (x : Nat), x ≤ m ∧ i = .int .i64 x ∧ Aside0 (∃ vx, Kd.R kV 45 wr wj.heap.size (fun _ => True) nx vx ∧ All2 (Rd wj (D + (k - (j + 1)))) vx ((tj.take x).flatMap T.kids)) ∧ Aside0 (Below wj.heap.size wj wr)) (fun _ i _ => m - (intOf i).toNat)
      case atStart => exact ⟨0, Nat.zero_le _, rfl, ⟨[], Kd.R_nil _ _ _ _ _, trivial⟩, ⟨Below.refl _ _⟩⟩
      case round =>
        obtain ⟨x, hx, rfl, HN, HB2⟩ := hrel
        by_cases hxm : x < m
        · have hxv : x < vj.length := by have := HL.out.1; omega
          have hxt : x < tj.length := by have := HL.out.2; omega
          obtain ⟨ad, rfl, c0, c1, c2, c3⟩ := at_V (HRow.out.below HB2.out).row x hxm
          have hrd := All2.at_ z0 (T.mk false []) HRow.out.all x hxv
          obtain ⟨_, hkn, hkc, vk, hCk, hAk⟩ := hrd
          obtain ⟨vx, hvx, hAx⟩ := HN.out
          have HC := Aside0.mk (And.intro hCk hAk)
          have HX := Aside0.mk (And.intro hvx hAx)
          have hlen : vx.length + (gv vj x).kn ≤ 1048576 := by
            have h1 := All2.len hAx
            have h2 := flat_len tj (x + 1)
            rw [flat_snoc tj x hxt, List.length_append] at h2
            have h3 := HM2.out
            have h4 : (gv vj x).kn = (tj.getD x (.mk false [])).kids.length := hkn
            omega
          have HF := Aside0.mk (flat_snoc tj x hxt)
          change Kd.C kV wj (gv vj x).kA (gv vj x).kn vk at hCk
          have HCK := Aside0.mk hCk
          have hkc' : (gv vj x).kn ≤ (gv vj x).kc := hkc.1
          have HAV := Aside0.mk hAk
          clear hCk hAk hvx hAx hkn hkc HC
          generalize gv vj x = p at c0 c1 c2 c3 hlen HCK hkc'
          rcases p with ⟨nul, num, txt, kA, kn, kc⟩
          dsimp only at c0 c1 c2 c3 hlen HCK hkc'
          go_wp2_with ((with_reducible refine gate_builtin (b := .append) (xs := #[.tmp 17, .tmp 19]) rfl ?_); at_builtin; refine appN kV (w0 := wj) wj.heap.size (fun _ _ _ _ h => h) rfl (.tmp 17) (.tmp 19) 22 45 (.agg #[.bool false, .int .u64 0, .string ⟨#[]⟩, .slice none 0 0]) 56 rfl Tryd.underlying22 info45 rfl (by decide) (by omega) _ vx vk kA kn kc rfl rfl (Kd.R_below HX.out.1 ((Below.refl _ _).alloc (Nat.le_refl _) _)) (Kd.C_below HCK.out (HB2.out.alloc HB2.out.size _)) (HB2.out.alloc HB2.out.size _) (by simp; have := HB2.out.size; omega) (by omega) ?_; intro v9 w9 ho9 hb9; have HO9 := Aside0.mk ho9; have HB9 := Aside0.mk hb9; clear ho9 hb9)
          go_roundw
          case rel => exact ⟨x + 1, by omega, by go_num, ⟨vx ++ vk, HO9.out, by rw [HF.out]; exact All2.app HX.out.2 HAV.out⟩, HB9⟩
          case measure => simp [intOf]; omega
        · obtain rfl : x = m := by omega
          obtain ⟨vx, hvx, hAx⟩ := HN.out
          rw [List.take_of_length_le (by have := HL.out.2; omega), ← HJ.out] at hAx
          have hl2 := All2.len hAx
          obtain ⟨mm, hmm2⟩ : ∃ mm, vx.length = mm := ⟨_, rfl⟩
          obtain ⟨A9, c9, rfl, hc9, hC9⟩ := reads_n hmm2 hvx
          have H9 := Aside0.mk (show ∃ vj, Row wr (D + (k - (j + 1))) A9 mm vj (atT (j + 1) ts) from ⟨vx, hC9, All2.imp (fun _ _ => Rd.below HB2.out) hAx⟩)
          have HB9 := Aside0.mk (HB.out.trans (HB2.out.mono HB.out.size))
          clear hvx hAx hl2 hmm2 hC9
          go_wp2_with fail
          go_roundw
          case rel => exact ⟨j + 1, A9, mm, c9, by omega, by go_num, rfl, hc9, H9, HB9⟩
          case measure => simp [intOf]; omega
    · obtain rfl : j = k := by omega
      obtain ⟨vj, hrow⟩ := HR.out
      rw [Nat.sub_self, Nat.add_zero] at hrow
      have HRW := Aside0.mk hrow
      clear hrow HR
      go_wp2_with fail
      go_ret
      obtain ⟨_, hl⟩ := HRW.out.len
      exact ⟨Aj, cj, vj, by rw [hl]; rfl, by rw [hl]; exact hmc, by rw [hl]; exact HRW.out, HB.out⟩

end Go.Proofs.YtcjobencclihdaaDoor.Lv
