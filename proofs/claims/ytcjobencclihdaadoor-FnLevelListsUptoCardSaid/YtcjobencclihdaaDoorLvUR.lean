/- A value is shredded: put, on all levels. -/
import Derived.Test.YtcjobencclihdaaDoorLvU
namespace Go.Proofs.YtcjobencclihdaaDoor.Lv
open Go.RowKit Go.Proofs.YtcjobencclihdaaDoorW.PrintWords Go.Proofs.YtcjobencclihdaaDoorW.PrintLast Go.Proofs.YtcjobencclihdaaDoorW.PrintMore
set_option linter.unusedVariables false
set_option linter.unusedSimpArgs false

theorem eD_app (a b : List (Nat × Nat)) : eD (a ++ b) = eD a ++ eD b := by simp [eD]
theorem eR_app (a b : List (Nat × Nat)) : eR (a ++ b) = eR a ++ eR b := by simp [eR]
theorem eD_len (a : List (Nat × Nat)) : (eD a).length = a.length := by simp [eD]
theorem eR_len (a : List (Nat × Nat)) : (eR a).length = a.length := by simp [eR]
/-- What the loop over the kids has put. -/
def kEnt (n m d r : Nat) : List T → List (Nat × Nat)
  | [] => []
  | k :: ks => ent n m (d + 2) r k ++ ks.flatMap (ent n m (d + 2) (n - m))
theorem kEnt_snoc (n m d r : Nat) (ts : List T) (x : Nat) (h : x < ts.length) : kEnt n m d r (ts.take (x + 1)) = kEnt n m d r (ts.take x) ++ ent n m (d + 2) (if x = 0 then r else n - m) (ts.getD x (.mk false [])) := by
  cases ts with
  | nil => simp at h
  | cons k ks =>
    cases x with
    | zero => simp [kEnt]
    | succ x =>
      have h2 : x < ks.length := by simpa using h
      simp only [List.take_succ_cons, kEnt, List.append_assoc]
      rw [List.take_succ_eq_append_getElem h2, List.flatMap_append]
      simp [List.getD_eq_getElem?_getD, List.getElem?_eq_getElem h2]
theorem kEnt_le (n m d r : Nat) (ts : List T) (x : Nat) : (kEnt n m d r (ts.take x)).length ≤ (kEnt n m d r ts).length := by
  cases ts with
  | nil => simp
  | cons k ks =>
    cases x with
    | zero => simp [kEnt]
    | succ x =>
      simp only [List.take_succ_cons, kEnt, List.length_append]
      have : ks.flatMap (ent n m (d + 2) (n - m)) = (ks.take x).flatMap (ent n m (d + 2) (n - m)) ++ (ks.drop x).flatMap (ent n m (d + 2) (n - m)) := by rw [← List.flatMap_append, List.take_append_drop]
      rw [this, List.length_append]
      omega
theorem ent_kids (n m d r : Nat) (t : T) (h1 : t.nul = false) (h2 : t.kids ≠ []) : ent n (m + 1) d r t = kEnt n m d r t.kids := by
  unfold ent
  rw [if_neg (by simp [h1])]
  cases h : t.kids with
  | nil => exact absurd h h2
  | cons k ks => rfl
abbrev PutT (m : Nat) : Prop := ∀ (n l d r : Nat), l + m = n → n ≤ 4 → d + 2 * m < 900 → r < 900 → ∀ (v : V) (t : T) (w0 W : World) (g : Nat) (D R : Value) (ds rs : List Int), Sh w0 W w0.heap.size g D R ds rs → Rd w0 m v t →
    ds.length + (ent n m d r t).length ≤ 1099511627776 → rs.length + (ent n m d r t).length ≤ 1099511627776 →
    Calls Tryd.prog 12 #[.pointer (some ⟨g, 0, none⟩), v.agg, .int .i64 n, .int .i64 l, .int .i64 d, .int .i64 r] W (PutR w0 g (ds ++ eD (ent n m d r t)) (rs ++ eR (ent n m d r t)))
theorem put_zero : PutT 0 := by
  intro n l d r hl hn hd hr v t w0 W g D R ds rs h ht h1 h2
  obtain rfl : l = n := by omega
  obtain ⟨e1, _, _⟩ := ht.head
  unfold ent at h1 h2 ⊢
  by_cases hnul : t.nul = true
  · rw [if_pos hnul] at h1 h2 ⊢
    exact put_nul l l d r (by omega) (by omega) v (e1.trans hnul) w0 W g D R ds rs h (by omega) (by omega)
  · rw [if_neg hnul] at h1 h2 ⊢
    exact put_leaf l d r (by omega) (by omega) v (e1.trans (by simpa using hnul)) w0 W g D R ds rs h (by omega) (by omega)
set_option maxRecDepth 100000 in
set_option maxHeartbeats 4000000 in
theorem put_kids (m n l d r : Nat) (ih : PutT m) (hl : l + (m + 1) = n) (hn : n ≤ 4) (hd : d + 2 * (m + 1) < 900) (hr : r < 900) (v : V) (t : T) (w0 W : World) (g : Nat) (D R : Value) (ds rs : List Int) (h : Sh w0 W w0.heap.size g D R ds rs) (ht : Rd w0 (m + 1) v t)
    (h1 : ds.length + (ent n (m + 1) d r t).length ≤ 1099511627776) (h2 : rs.length + (ent n (m + 1) d r t).length ≤ 1099511627776) (hnul : t.nul = false) (hk : t.kids ≠ []) :
    Calls Tryd.prog 12 #[.pointer (some ⟨g, 0, none⟩), v.agg, .int .i64 n, .int .i64 l, .int .i64 d, .int .i64 r] W (PutR w0 g (ds ++ eD (ent n (m + 1) d r t)) (rs ++ eR (ent n (m + 1) d r t))) := by
  rw [ent_kids n m d r t hnul hk] at h1 h2 ⊢
  obtain ⟨e1, e2, e3, vs, hC, hA⟩ := ht
  obtain ⟨e3, e4⟩ := e3
  rw [hnul] at e1
  have hk0 : v.kn ≠ 0 := by
    rw [e2]
    intro h0
    exact hk (List.length_eq_zero_iff.1 h0)
  rcases v with ⟨nul, num, txt, kA, kn, kc⟩
  dsimp only at e1 e2 e3 e4 hC hk0
  subst e1
  generalize t.kids = ks at e2 hA h1 h2 ⊢
  have H0 := Aside0.mk h
  have HC := Aside0.mk hC
  have HA := Aside0.mk hA
  have HI := Aside0.mk ih
  have hvl : vs.length = kn := hC.1
  have HL := Aside0.mk (And.intro h1 h2)
  have hne : ((l : Int) == (n : Int)) = false := by simp; omega
  have hz : ((kn : Int) == 0) = false := by simp; omega
  have hHS := Aside0.mk e2
  clear h hC hA ih h1 h2 e2 hk hnul
  go_enter Tryd.func12, Tryd.ntmps12
  go_wp2_with fail
  go_loopw [5, 17] (fun rep i wr => ∃ (x : Nat), x ≤ kn ∧ i = .int .i64 x ∧ rep = .int .i64 ((if x ≤ 1 then r else l + 1 : Nat) : Int) ∧ Aside0 (∃ D R, Sh w0 wr w0.heap.size g D R (ds ++ eD (kEnt n m d r (ks.take x))) (rs ++ eR (kEnt n m d r (ks.take x))))) (fun _ i _ => kn - (intOf i).toNat)
  case atStart => exact ⟨0, Nat.zero_le _, rfl, rfl, ⟨D, R, by simpa [kEnt, eD, eR] using H0.out.step ((Below.refl _ _).alloc (Nat.le_refl _) _)⟩⟩
  case round =>
    obtain ⟨x, hx, rfl, rfl, HS⟩ := hrel
    by_cases hlt : x < kn
    · obtain ⟨D1, R1, hs⟩ := HS.out
      obtain ⟨ad, rfl, c0, c1, c2, c3⟩ := at_V (Kd.C_below HC.out hs.bel) x hlt
      have hxt : x < ks.length := by have := hHS.out; omega
      have HR := Aside0.mk (All2.at_ z0 (T.mk false []) HA.out x (by omega))
      have HE := Aside0.mk (kEnt_snoc n m d r ks x hxt)
      have HLn := Aside0.mk (show ds.length + (kEnt n m d r (ks.take (x + 1))).length ≤ 1099511627776 ∧ rs.length + (kEnt n m d r (ks.take (x + 1))).length ≤ 1099511627776 by have := kEnt_le n m d r ks (x + 1); have := HL.out; omega)
      have HS1 := Aside0.mk hs
      clear hs HS
      change Aside0 (Rd w0 m (gv vs x) (ks.getD x (T.mk false []))) at HR
      generalize ks.getD x (T.mk false []) = kt at HR HE
      generalize gv vs x = p at c0 c1 c2 c3 HR
      by_cases hx0 : x = 0
      · rw [if_pos hx0] at HE
        rw [if_pos (show x ≤ 1 by omega)]
        have hxn : ¬ ((0 : Int) < (x : Int)) := by omega
        have HX0 := Aside0.mk hx0
        clear hx0
        have HP := Aside0.mk (show ∀ W' : World, Below wr.heap.size wr W' → Calls Tryd.prog 12 #[.pointer (some ⟨g, 0, none⟩), p.agg, .int .i64 n, .int .i64 ((l : Int) + 1), .int .i64 ((d : Int) + 2), .int .i64 (r : Int)] W' (PutR w0 g (ds ++ eD (kEnt n m d r (ks.take (x + 1)))) (rs ++ eR (kEnt n m d r (ks.take (x + 1))))) from fun W' hb' => by
          have h9 := HI.out n (l + 1) (d + 2) (r) (by omega) hn (by omega) (by omega) p kt w0 W' g D1 R1 _ _ (HS1.out.step hb') HR.out (by rw [List.length_append, eD_len]; have := HLn.out; rw [HE.out] at this; rw [List.length_append] at this; omega) (by rw [List.length_append, eR_len]; have := HLn.out; rw [HE.out] at this; rw [List.length_append] at this; omega)
          rw [HE.out, eD_app, eR_app, ← List.append_assoc, ← List.append_assoc]
          rw [show ((l + 1 : Nat) : Int) = (l : Int) + 1 by omega, show ((d + 2 : Nat) : Int) = (d : Int) + 2 by omega] at h9
          exact h9)
        clear HE HLn HR HI
        rcases p with ⟨nul1, num1, txt1, kA1, kn1, kc1⟩
        dsimp only at c0 c1 c2 c3
        go_wp2_with (go_at_call 12; refine (HP.out _ (by go_grown)).mono ?_; rintro e w9 ⟨rfl, D2, R2, hs2⟩; have HS9 := Aside0.mk hs2; clear hs2)
        exact ⟨⟨x + 1, by omega, by go_num, by rw [if_pos (show x + 1 ≤ 1 by have := HX0.out; omega)], ⟨D2, R2, HS9.out⟩⟩, by simp [intOf]; omega⟩
      · rw [if_neg hx0, show n - m = l + 1 by omega] at HE
        generalize (if x ≤ 1 then r else l + 1) = rp
        have hxp : (0 : Int) < (x : Int) := by omega
        have HP := Aside0.mk (show ∀ W' : World, Below wr.heap.size wr W' → Calls Tryd.prog 12 #[.pointer (some ⟨g, 0, none⟩), p.agg, .int .i64 n, .int .i64 ((l : Int) + 1), .int .i64 ((d : Int) + 2), .int .i64 ((l : Int) + 1)] W' (PutR w0 g (ds ++ eD (kEnt n m d r (ks.take (x + 1)))) (rs ++ eR (kEnt n m d r (ks.take (x + 1))))) from fun W' hb' => by
          have h9 := HI.out n (l + 1) (d + 2) (l + 1) (by omega) hn (by omega) (by omega) p kt w0 W' g D1 R1 _ _ (HS1.out.step hb') HR.out (by rw [List.length_append, eD_len]; have := HLn.out; rw [HE.out] at this; rw [List.length_append] at this; omega) (by rw [List.length_append, eR_len]; have := HLn.out; rw [HE.out] at this; rw [List.length_append] at this; omega)
          rw [HE.out, eD_app, eR_app, ← List.append_assoc, ← List.append_assoc]
          rw [show ((l + 1 : Nat) : Int) = (l : Int) + 1 by omega, show ((d + 2 : Nat) : Int) = (d : Int) + 2 by omega] at h9
          exact h9)
        clear HE HLn HR HI
        rcases p with ⟨nul1, num1, txt1, kA1, kn1, kc1⟩
        dsimp only at c0 c1 c2 c3
        go_wp2_with (go_at_call 12; refine (HP.out _ (by go_grown)).mono ?_; rintro e w9 ⟨rfl, D2, R2, hs2⟩; have HS9 := Aside0.mk hs2; clear hs2)
        exact ⟨⟨x + 1, by omega, by go_num, by rw [if_neg (show ¬ x + 1 ≤ 1 by omega)]; go_num, ⟨D2, R2, HS9.out⟩⟩, by simp [intOf]; omega⟩
    · obtain rfl : x = kn := by omega
      rw [List.take_of_length_le (by have := hHS.out; omega)] at HS
      generalize (if x ≤ 1 then r else l + 1) = rp
      go_wp2_with fail
      go_end0
      exact ⟨rfl, HS.out⟩
theorem put_fn : ∀ m, PutT m := by
  intro m
  induction m with
  | zero => exact put_zero
  | succ m ih =>
    intro n l d r hl hn hd hr v t w0 W g D R ds rs h ht h1 h2
    obtain ⟨e1, e2, _⟩ := ht.head
    by_cases hnul : t.nul = true
    · have hE : ent n (m + 1) d r t = [(d, r)] := by unfold ent; rw [if_pos hnul]
      rw [hE] at h1 h2 ⊢
      exact put_nul n l d r (by omega) (by omega) v (e1.trans hnul) w0 W g D R ds rs h (by omega) (by omega)
    · have hnf : t.nul = false := by simpa using hnul
      by_cases hk : t.kids = []
      · have hE : ent n (m + 1) d r t = [(d + 1, r)] := by unfold ent; rw [if_neg hnul, hk]
        rw [hE] at h1 h2 ⊢
        exact put_empty n l d r (by omega) (by omega) v (by omega) (by rw [e2, hk]; rfl) (e1.trans hnf) w0 W g D R ds rs h (by omega) (by omega)
      · exact put_kids m n l d r ih hl hn hd hr v t w0 W g D R ds rs h ht h1 h2 hnf hk

end Go.Proofs.YtcjobencclihdaaDoor.Lv
