/- The law's walk where its guards turn it away at once. -/
import Derived.Test.YtldkpgjpfhoekaaJrT
namespace Go.Proofs.Ytldkpgjpfhoekaa.Join
open Go.RowKit Go.Proofs.YtldkpgjpfhoekaaW.PrintWords Go.Proofs.YtldkpgjpfhoekaaW.PrintLast Go.Proofs.YtldkpgjpfhoekaaW.PrintMore
set_option linter.unusedVariables false
set_option linter.unusedSimpArgs false

structure Args (w : World) (A : Option Addr) (n c : Nat) (ps : List Pt) (rs : List (List Int)) : Prop where
  row : Kd.C kP w A n ps
  cap : n ≤ c
  len : rs.length = n
  byt : ∀ j, j < n → ReadsOf (Value.int .u8) (0 : Int) w (gp ps j).A (gp ps j).n (rs.getD j []) ∧ (gp ps j).n ≤ (gp ps j).c ∧ ByteL (rs.getD j [])
  rng : ∀ j, j < n → (-9223372036854775808 ≤ (gp ps j).off ∧ (gp ps j).off ≤ 9223372036854775807) ∧ (-9223372036854775808 ≤ (gp ps j).len ∧ (gp ps j).len ≤ 9223372036854775807)
set_option maxRecDepth 100000 in
set_option maxHeartbeats 8000000 in
theorem law_big (A : Option Addr) (n c : Nat) (ps : List Pt) (W : Int) (w : World) (h : Kd.C kP w A n ps) (hf : ¬ FitsP n ps) :
    Calls Try.prog 3 #[.slice A n c, .int .i64 W] w (Fine w) := by
  have HP := Aside0.mk (And.intro h hf)
  clear h hf
  go_enter Try.func3, Try.ntmps3
  go_wp2_with (go_at_call 4; refine (fits13_no A n c ps w HP.out.1 HP.out.2).mono ?_; rintro e w1 ⟨rfl, hb1⟩; have HB1 := Aside0.mk hb1; clear hb1)
  go_ret
  exact ⟨rfl, HB1.out⟩
set_option maxRecDepth 100000 in
set_option maxHeartbeats 8000000 in
theorem law_off (A : Option Addr) (n c : Nat) (ps : List Pt) (W : Int) (w : World) (h : Kd.C kP w A n ps) (hf : FitsP n ps) (hbad : 20 < n ∨ n = 0 ∨ (W ≠ 2 ∧ W ≠ 4 ∧ W ≠ 8)) :
    Calls Try.prog 3 #[.slice A n c, .int .i64 W] w (Fine w) := by
  have HP := Aside0.mk (And.intro h hf)
  have HBD := Aside0.mk hbad
  clear h hf hbad
  go_enter Try.func3, Try.ntmps3
  go_upto_region 5 with (first
    | (go_at_call 4; refine (fits13_yes A n c ps w HP.out.1 HP.out.2).mono ?_; rintro e w1 ⟨rfl, hb1⟩; have HB1 := Aside0.mk hb1; clear hb1)
    | (have hg := HB1.out; clear hg; go_at_call 5; refine (first w1).mono ?_; rintro e w2 ⟨A2, c2, rfl, hc2, hC2, hb2⟩; have HB2 := Aside0.mk (HB1.out.trans (hb2.mono HB1.out.size)); have HC2 := Aside0.mk hC2; clear hb2 hC2)
    | (have hg := HB2.out; clear hg; go_at_call 6; refine (sameB A2 (some ⟨w2.heap.size, 0, none⟩) 2 c2 2 [3, 0] _ rfl (Kd.C_below HC2.out ((Below.refl _ _).alloc (Nat.le_refl _) _)) (lit2 w2) hc2 (Nat.le_refl _)).mono ?_; rintro e w3 ⟨rfl, hb3⟩; have HB3 := Aside0.mk ((HB2.out.alloc HB2.out.size _).trans (hb3.mono (by simp; have := HB2.out.size; omega))); clear hb3))
  have hfin : Aside0 (Below w.heap.size w w3) := HB3
  by_cases h20 : 20 < n
  · go_wp2
    go_ret
    exact ⟨rfl, hfin.out⟩
  · by_cases h0 : n = 0
    · subst h0
      go_wp2
      go_ret
      exact ⟨rfl, hfin.out⟩
    · have hW := HBD.out
      have h0' : ((n : Int) == 0) = false := by simp; omega
      have h2 : (W == 2) = false := by simp; omega
      have h4 : (W == 4) = false := by simp; omega
      have h8 : (W == 8) = false := by simp; omega
      have g2 : ¬ W = 2 := by simpa using h2
      have g4 : ¬ W = 4 := by simpa using h4
      have g8 : ¬ W = 8 := by simpa using h8
      have n2 : (W != 2) = true := by simpa using g2
      have n4 : (W != 4) = true := by simpa using g4
      have n8 : (W != 8) = true := by simpa using g8
      clear hW
      go_wp2
      go_ret
      exact ⟨rfl, hfin.out⟩
def Gd (z : Nat) (ps : List Pt) (rs : List (List Int)) (j : Nat) : Prop := (gp ps j).has = true ∧ (rs.getD j []).length % z = 0 ∧ Fit1 (gp ps j).off (gp ps j).len (dec z (rs.getD j []))
theorem goes_of {z : Nat} (hz : z = 2 ∨ z = 4 ∨ z = 8) {w : World} {A : Option Addr} {n c : Nat} {ps : List Pt} {rs : List (List Int)} (h : Args w A n c ps rs) (hf : FitsP n ps) (hn : n ≤ 20) (hg : ∀ j, j < n → Gd z ps rs j) : Goes w A n ps z (rs.map (dec z)) := by
  have hpl : ps.length = n := h.row.1
  have hrl := h.len
  have hb : ∀ j, j < n → ((rs.map (dec z)).map (fun E => bytesL z (usz z E))).getD j [] = rs.getD j [] := by
    intro j hj
    obtain ⟨r1, r2, r3⟩ := h.byt j hj
    have e1 : ((rs.map (dec z)).map (fun E => bytesL z (usz z E))).getD j [] = bytesL z (usz z (dec z (rs.getD j []))) := by
      simp [List.getD_eq_getElem?_getD, List.getElem?_eq_getElem (show j < rs.length by omega)]
    rw [e1]
    obtain ⟨k, _, hk⟩ := dec_spec hz r3 (by rw [r1.1]; exact hf.2 j hj)
    exact hk (hg j hj).2.1
  refine ⟨hz, h.row, fun k hk => (hg k hk).1, ⟨by simp; omega, fun j hj => ?_⟩, ⟨by simp; exact hrl, by simp; exact hpl, hn, fun k hk => ?_⟩⟩
  · have hj' : j < n := by omega
    obtain ⟨r1, r2, r3⟩ := h.byt j hj'
    rw [hb j hj']
    refine ⟨r1, r2, ?_⟩
    have h5 := (hg j hj').2.2.cnt5
    have h6 := hb j hj'
    have e1 : ((rs.map (dec z)).map (fun E => bytesL z (usz z E))).getD j [] = bytesL z (usz z (dec z (rs.getD j []))) := by
      simp [List.getD_eq_getElem?_getD, List.getElem?_eq_getElem (show j < rs.length by omega)]
    rw [e1] at h6
    have h7 := congrArg List.length h6
    rw [bytesL_len, usz_len] at h7
    have h8 := Nat.mul_le_mul h5 (show z ≤ 8 by omega)
    have h9 := r1.1
    omega
  · obtain ⟨q1, q2⟩ := off_at ps k (by omega)
    rw [q1, q2, dec_at z rs k (by omega)]
    exact (hg k hk).2.2
theorem Goes.below {z : Nat} {w w1 : World} {A : Option Addr} {n : Nat} {ps : List Pt} {es : List (List Int)} (h : Goes w A n ps z es) (hb : Below w.heap.size w w1) : Goes w1 A n ps z es :=
  ⟨h.z3, Kd.C_below h.row hb, h.has, h.bts.below hb, h.fit⟩
def RetJN (z N : Nat) (l : List Int) (w : World) (e : Ending) (w' : World) : Prop := ∃ A c, e = .returned (.tuple #[.slice A N c, .bool true]) ∧ N ≤ c ∧ Kd.C (Kd.int .u8) w' A N (bytesL z (usz z l)) ∧ Below w.heap.size w w'
theorem join_n (A : Option Addr) (n c z M N : Nat) (ps : List Pt) (es : List (List Int)) (X : List Int) (w : World) (h : Goes w A n ps z es) (hc : n ≤ c) (hX : jn (ps.map offLen) es n = X) (hM : X.length = M) (hN : M * z = N) :
    Calls Try.prog 5 #[.slice A n c, .int .i64 z] w (RetJN z N X w) := by
  subst hX
  subst hM
  subst hN
  exact joinRuns A n c z _ _ ps es w h hc rfl rfl

end Go.Proofs.Ytldkpgjpfhoekaa.Join
