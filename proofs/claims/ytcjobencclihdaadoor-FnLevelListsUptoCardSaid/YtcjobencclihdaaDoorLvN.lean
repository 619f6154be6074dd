/- Whether values are nested lists; whether rows fit. -/
import Derived.Test.YtcjobencclihdaaDoorLvA
namespace Go.Proofs.YtcjobencclihdaaDoor.Lv
open Go.RowKit Go.Proofs.YtcjobencclihdaaDoorW.PrintWords Go.Proofs.YtcjobencclihdaaDoorW.PrintLast Go.Proofs.YtcjobencclihdaaDoorW.PrintMore
set_option linter.unusedVariables false
set_option linter.unusedSimpArgs false

def BoolB (b : Bool) (w : World) (e : Ending) (w' : World) : Prop := e = .returned (.bool b) ∧ Below w.heap.size w w'
theorem empty_test {kn : Nat} {l : List T} (h : kn = l.length) : ((kn : Int) == 0) = l.isEmpty := by
  subst h
  cases l with
  | nil => rfl
  | cons a l => simp; omega
set_option maxRecDepth 100000 in
theorem nested_zero (v : V) (t : T) (w : World) (h : Rd w 0 v t) : Calls Tryd.prog 11 #[v.agg, .int .i64 0] w (BoolB (nested 0 t) w) := by
  obtain ⟨h1, h2, h3⟩ := h
  have he := empty_test h2
  unfold nested
  obtain ⟨b, hb⟩ : ∃ b, t.kids.isEmpty = b := ⟨_, rfl⟩
  rw [hb] at he ⊢
  rcases v with ⟨nul, num, txt, kA, kn, kc⟩
  dsimp only at he
  clear h1 h2 h3 hb
  go_enter Tryd.func11, Tryd.ntmps11
  go_wp2
  go_ret
  exact ⟨rfl, by go_grown⟩
set_option maxRecDepth 100000 in
theorem nested_nul (lev : Nat) (hl : lev < 10) (v : V) (t : T) (w : World) (h : Rd w 0 v t) (hn : t.nul = true) : Calls Tryd.prog 11 #[v.agg, .int .i64 ((lev + 1 : Nat) : Int)] w (BoolB (nested (lev + 1) t) w) := by
  obtain ⟨h1, h2, h3⟩ := h
  have he := empty_test h2
  unfold nested
  rw [if_pos hn]
  obtain ⟨b, hb⟩ : ∃ b, t.kids.isEmpty = b := ⟨_, rfl⟩
  rw [hb] at he ⊢
  rw [hn] at h1
  rcases v with ⟨nul, num, txt, kA, kn, kc⟩
  dsimp only at he h1
  subst h1
  have hz : (((lev + 1 : Nat) : Int) == 0) = false := by simp; omega
  clear h2 h3 hb
  generalize lev + 1 = lv at hz ⊢
  go_enter Tryd.func11, Tryd.ntmps11
  go_wp2
  go_ret
  exact ⟨rfl, by go_grown⟩
set_option maxRecDepth 100000 in
set_option maxHeartbeats 2000000 in
theorem nested_fn : ∀ (lev : Nat), lev ≤ 4 → ∀ (v : V) (t : T) (w : World), Rd w lev v t → Calls Tryd.prog 11 #[v.agg, .int .i64 lev] w (BoolB (nested lev t) w) := by
  intro lev
  induction lev with
  | zero => intro _ v t w h; exact nested_zero v t w h
  | succ lev ih =>
    intro hl v t w h
    by_cases hn : t.nul = true
    · exact nested_nul lev (by omega) v t w (h.le (Nat.zero_le _)) hn
    · obtain ⟨h1, h2, h3, vs, hC, hA⟩ := h
      have e1 : nested (lev + 1) t = t.kids.all (nested lev) := by rw [nested, if_neg hn]
      rw [e1]
      have hnf : t.nul = false := by simpa using hn
      rw [hnf] at h1
      rcases v with ⟨nul, num, txt, kA, kn, kc⟩
      dsimp only at h1 h2 h3 hC
      obtain ⟨h3, h4⟩ := h3
      subst h1
      have hz : (((lev + 1 : Nat) : Int) == 0) = false := by simp; omega
      have HI := Aside0.mk (ih (by omega))
      have HC := Aside0.mk hC
      have HA := Aside0.mk hA
      have hvl : vs.length = kn := hC.1
      generalize t.kids = ks at h2 HA hA ⊢
      have esub : IntKind.i64.wrap (((lev + 1 : Nat) : Int) - 1) = (lev : Int) := by rw [IntKind.wrap_i64]; omega
      clear hC hA e1 hn hnf ih
      generalize ((lev + 1 : Nat) : Int) = lv at hz esub ⊢
      have h2' := Aside0.mk h2
      clear h2
      go_enter Tryd.func11, Tryd.ntmps11
      go_wp2_with fail
      go_loopw [20] (fun i wr => ∃ (x : Nat), x ≤ kn ∧ i = .int .i64 x ∧ Aside0 ((ks.take x).all (nested lev) = true) ∧ Aside0 (Below w.heap.size w wr)) (fun i _ => kn - (intOf i).toNat)
      case atStart => exact ⟨0, Nat.zero_le _, rfl, ⟨rfl⟩, ⟨by go_grown⟩⟩
      case round =>
        obtain ⟨x, hx, rfl, HP, HB⟩ := hrel
        by_cases hlt : x < kn
        · have hxt : x < ks.length := by have := h2'.out; omega
          obtain ⟨ad, rfl, c0, c1, c2, c3⟩ := at_V (Kd.C_below HC.out HB.out) x hlt
          have hrd := (All2.at_ z0 (T.mk false []) HA.out x (by omega)).below HB.out
          have HR := Aside0.mk hrd
          have eg : (gv vs x).agg = .agg #[.bool (gv vs x).nul, .int .u64 (gv vs x).num, .string (gv vs x).txt, .slice (gv vs x).kA (gv vs x).kn (gv vs x).kc] := rfl
          clear hrd
          change Aside0 (Rd wr lev (gv vs x) (ks.getD x (T.mk false []))) at HR
          have HT := Aside0.mk (show (ks.take (x + 1)).all (nested lev) = nested lev (ks.getD x (T.mk false [])) by
            rw [List.take_succ_eq_append_getElem hxt, List.all_append, HP.out]
            simp [List.getD_eq_getElem?_getD, List.getElem?_eq_getElem hxt])
          have HF := Aside0.mk (show nested lev (ks.getD x (T.mk false [])) = false → ks.all (nested lev) = false by
            intro hf
            rw [List.all_eq_false]
            refine ⟨ks[x], List.getElem_mem hxt, ?_⟩
            rw [List.getD_eq_getElem?_getD, List.getElem?_eq_getElem hxt] at hf
            simpa using hf)
          generalize ks.getD x (T.mk false []) = kt at HR HT HF
          generalize gv vs x = p at c0 c1 c2 c3 HR eg
          rcases p with ⟨nul1, num1, txt1, kA1, kn1, kc1⟩
          dsimp only at c0 c1 c2 c3 eg
          go_wp2_with (go_at_call 11; refine (HI.out _ _ _ (HR.out.below (by go_grown))).mono ?_; rintro e w9 ⟨rfl, hb9⟩; have HB9 := Aside0.mk (HB.out.trans ((((Below.refl _ _).alloc (Nat.le_refl _) _).trans (hb9.mono (by simp))).mono HB.out.size)); clear hb9; obtain ⟨bb, hbb⟩ : ∃ b, nested lev kt = b := ⟨_, rfl⟩; rw [hbb] at HT HF; rw [hbb]; clear hbb)
          · go_ret
            have hf : bb = false := by cases bb <;> simp_all
            exact ⟨by rw [HF.out hf]; rfl, HB9.out⟩
          · have ht : bb = true := by cases bb <;> simp_all
            subst ht
            go_roundw
            case rel => exact ⟨x + 1, by omega, by go_num, HT, HB9⟩
            case measure => simp [intOf]; omega
        · obtain rfl : x = kn := by omega
          rw [List.take_of_length_le (by have := h2'.out; omega)] at HP
          go_wp2_with fail
          go_ret
          exact ⟨by rw [HP.out]; rfl, HB.out⟩

end Go.Proofs.YtcjobencclihdaaDoor.Lv
