/- Rows are shredded. -/
import Derived.Test.YtcjobencclihdaaDoorLvUR
namespace Go.Proofs.YtcjobencclihdaaDoor.Lv
open Go.RowKit Go.Proofs.YtcjobencclihdaaDoorW.PrintWords Go.Proofs.YtcjobencclihdaaDoorW.PrintLast Go.Proofs.YtcjobencclihdaaDoorW.PrintMore
set_option linter.unusedVariables false
set_option linter.unusedSimpArgs false

theorem shred_snoc (n : Nat) (ts : List T) (x : Nat) (h : x < ts.length) : shred n (ts.take (x + 1)) = shred n (ts.take x) ++ ent n n 0 0 (ts.getD x (.mk false [])) := by
  unfold shred
  rw [List.take_succ_eq_append_getElem h, List.flatMap_append]
  simp [List.getD_eq_getElem?_getD, List.getElem?_eq_getElem h]
theorem shred_le (n : Nat) (ts : List T) (x : Nat) : (shred n (ts.take x)).length ≤ (shred n ts).length := by
  have : shred n ts = shred n (ts.take x) ++ shred n (ts.drop x) := by unfold shred; rw [← List.flatMap_append, List.take_append_drop]
  rw [this, List.length_append]
  omega
/-- Levels: two rows of the same length. -/
def RetShred (n : Nat) (ts : List T) (w : World) (e : Ending) (w' : World) : Prop := ∃ A1 c1 A2 c2, e = .returned (.tuple #[.slice A1 (shred n ts).length c1, .slice A2 (shred n ts).length c2]) ∧
  (shred n ts).length ≤ c1 ∧ (shred n ts).length ≤ c2 ∧ Kd.C kH w' A1 (shred n ts).length (eD (shred n ts)) ∧ Kd.C kH w' A2 (shred n ts).length (eR (shred n ts)) ∧ Below w.heap.size w w'
theorem Sh.start (w : World) : Sh w (w.alloc (.cells #[.slice none 0 0, .slice none 0 0] 50)) w.heap.size w.heap.size (.slice none 0 0) (.slice none 0 0) [] [] :=
  ⟨heap_alloc_new _ _, Nat.le_refl _, HR.nil _ _, HR.nil _ _, .inl rfl, (Below.refl _ _).alloc (Nat.le_refl _) _, by simp⟩
set_option maxRecDepth 100000 in
set_option maxHeartbeats 4000000 in
theorem shred_fn (n : Nat) (hn : n ≤ 4) (A : Option Addr) (k c : Nat) (vs : List V) (ts : List T) (w : World) (h : Row w n A k vs ts) (hkc : k ≤ c) (hk : k ≤ 1048576) (hl : (shred n ts).length ≤ 1099511627776) :
    Calls Tryd.prog 5 #[.slice A k c, .int .i64 n, .int .i64 0] w (RetShred n ts w) := by
  have H0 := Aside0.mk h
  have HL := Aside0.mk hl
  obtain ⟨hvl, htl⟩ := h.len
  have HTL := Aside0.mk htl
  clear h hl htl
  go_enter Tryd.func5, Tryd.ntmps5
  go_wp2_with fail
  go_loopw [15] (fun i wr => ∃ (x : Nat), x ≤ k ∧ i = .int .i64 x ∧ Aside0 (∃ D R, Sh w wr w.heap.size w.heap.size D R (eD (shred n (ts.take x))) (eR (shred n (ts.take x))))) (fun i _ => k - (intOf i).toNat)
  case atStart => exact ⟨0, Nat.zero_le _, rfl, ⟨_, _, Sh.start w⟩⟩
  case round =>
    obtain ⟨x, hx, rfl, HS⟩ := hrel
    obtain ⟨D1, R1, hs⟩ := HS.out
    by_cases hlt : x < k
    · obtain ⟨ad, rfl, c0, c1, c2, c3⟩ := at_V (Kd.C_below H0.out.row hs.bel) x hlt
      have hxt : x < ts.length := by have := HTL.out; omega
      have HR := Aside0.mk (All2.at_ z0 (T.mk false []) H0.out.all x (by omega))
      have HE := Aside0.mk (shred_snoc n ts x hxt)
      have HLn := Aside0.mk (Nat.le_trans (shred_le n ts (x + 1)) HL.out)
      have HS1 := Aside0.mk hs
      clear hs HS
      change Aside0 (Rd w n (gv vs x) (ts.getD x (T.mk false []))) at HR
      generalize ts.getD x (T.mk false []) = kt at HR HE
      generalize gv vs x = p at c0 c1 c2 c3 HR
      have HP := Aside0.mk (show ∀ W' : World, Below wr.heap.size wr W' → Calls Tryd.prog 12 #[.pointer (some ⟨w.heap.size, 0, none⟩), p.agg, .int .i64 n, .int .i64 0, .int .i64 0, .int .i64 0] W' (PutR w w.heap.size (eD (shred n (ts.take (x + 1)))) (eR (shred n (ts.take (x + 1))))) from fun W' hb' => by
        have h9 := put_fn n n 0 0 0 (by omega) hn (by omega) (by omega) p kt w W' w.heap.size D1 R1 _ _ (HS1.out.step hb') HR.out (by rw [eD_len]; have := HLn.out; rw [HE.out] at this; rw [List.length_append] at this; omega) (by rw [eR_len]; have := HLn.out; rw [HE.out] at this; rw [List.length_append] at this; omega)
        rw [HE.out, eD_app, eR_app]
        exact h9)
      clear HE HLn HR
      rcases p with ⟨nul1, num1, txt1, kA1, kn1, kc1⟩
      dsimp only at c0 c1 c2 c3
      go_wp2_with (go_at_call 12; refine (HP.out _ (by go_grown)).mono ?_; rintro e w9 ⟨rfl, D2, R2, hs2⟩; have HS9 := Aside0.mk hs2; clear hs2)
      exact ⟨⟨x + 1, by omega, by go_num, ⟨D2, R2, HS9.out⟩⟩, by simp [intOf]; omega⟩
    · obtain rfl : x = k := by omega
      rw [List.take_of_length_le (by have := HTL.out; omega)] at hs
      obtain ⟨p0, p1, p2, p3⟩ := held_of hs.blk
      have HB := Aside0.mk hs.bel
      obtain ⟨A1, c1, hD, hc1, hC1⟩ := Kd.R_reads hs.d
      obtain ⟨A2, c2, hR, hc2, hC2⟩ := Kd.R_reads hs.r
      have HCC := Aside0.mk (And.intro hC1 hC2)
      rw [eD_len] at hc1 hD HCC
      rw [eR_len] at hc2 hR HCC
      subst hD hR
      clear hC1 hC2 hs HS
      go_wp2_with fail
      go_region_held3 (fun w' => w'.cell? ⟨w.heap.size, 0, none⟩ = some (.slice A1 (shred n ts).length c1) ∧ w'.cell? ⟨w.heap.size, 1, none⟩ = some (.slice A2 (shred n ts).length c2)) (first | exact ⟨p0, p1⟩ | (go_keep; done)) (fail)
      go_wp2_with fail
      go_ret2
      exact ⟨A1, c1, A2, c2, rfl, hc1, hc2, HCC.out.1, HCC.out.2, below_drew HB.out⟩

end Go.Proofs.YtcjobencclihdaaDoor.Lv
