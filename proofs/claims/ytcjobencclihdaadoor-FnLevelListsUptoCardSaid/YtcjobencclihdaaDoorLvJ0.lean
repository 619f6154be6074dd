/- Room for bits; how many entries; the lists' counts (plain laws). -/
import Derived.Test.YtcjobencclihdaaDoorLvEi
import Derived.Test.YtcjobencclihdaaDoorLvEj
import Derived.Test.YtcjobencclihdaaDoorLvGy
import Derived.Test.YtcjobencclihdaaDoorProomForx1
namespace Go.Proofs.YtcjobencclihdaaDoor.Lv
open Go.RowKit Go.Proofs.YtcjobencclihdaaDoorW.PrintWords Go.Proofs.YtcjobencclihdaaDoorW.PrintLast Go.Proofs.YtcjobencclihdaaDoorW.PrintMore Go.Proofs.YtcjobencclihdaaDoor.ProomFor Go.Proofs.YtcjobencclihdaaDoor.PSameBools
set_option linter.unusedVariables false
set_option linter.unusedSimpArgs false

/-- The room's bytes when j bits are set. -/
def rb (nb j : Nat) : List Int := (List.range nb).map (fun i => ((2 ^ (min 8 (j - 8 * i)) - 1 : Nat) : Int))
theorem rb_len (nb j : Nat) : (rb nb j).length = nb := by simp [rb]
theorem rb_at (nb j i : Nat) (h : i < nb) : (rb nb j).getD i 0 = ((2 ^ (min 8 (j - 8 * i)) - 1 : Nat) : Int) := by
  simp [rb, List.getD_eq_getElem?_getD, h]
theorem rb_zero (nb : Nat) : rb nb 0 = List.replicate nb 0 := by
  apply List.ext_getElem
  · simp [rb]
  · intro i h1 h2; simp [rb]
theorem or_next (r : Nat) (h : r < 8) : bits .or .u8 ((2 ^ r - 1 : Nat) : Int) (shl .u8 1 (r : Int)) = ((2 ^ (r + 1) - 1 : Nat) : Int) := by
  rcases (show r = 0 ∨ r = 1 ∨ r = 2 ∨ r = 3 ∨ r = 4 ∨ r = 5 ∨ r = 6 ∨ r = 7 by omega) with rfl | rfl | rfl | rfl | rfl | rfl | rfl | rfl <;> decide
theorem rb_succ (nb j : Nat) (h : j < 8 * nb) : (rb nb j).set (j / 8) (bits .or .u8 ((rb nb j).getD (j / 8) 0) (shl .u8 1 ((j % 8 : Nat) : Int))) = rb nb (j + 1) := by
  rw [rb_at nb j (j / 8) (by omega), show min 8 (j - 8 * (j / 8)) = j % 8 by omega, or_next _ (by omega)]
  apply List.ext_getElem
  · simp [rb]
  · intro i h1 h2
    simp only [rb, List.getElem_set, List.getElem_map, List.getElem_range]
    by_cases hi : j / 8 = i
    · subst hi
      rw [if_pos rfl, show min 8 (j + 1 - 8 * (j / 8)) = j % 8 + 1 by omega]
    · rw [if_neg hi, show min 8 (j + 1 - 8 * i) = min 8 (j - 8 * i) by omega]
theorem room_loop (N a nb : Nat) (ha : a ≤ 8 * nb) (hs : nb ≤ 1048576) : ∀ (d j k : Nat), j + d = a → d < k → laws_roomFor.l0 k N a (rb nb j) a j = some ((N : Int), true, rb nb a, (a : Int)) := by
  intro d
  induction d with
  | zero =>
    intro j k h1 h2
    obtain ⟨k', rfl⟩ : ∃ k', k = k' + 1 := ⟨k - 1, by omega⟩
    obtain rfl : j = a := by omega
    unfold laws_roomFor.l0
    rw [if_neg (by omega)]
  | succ d ih =>
    intro j k h1 h2
    obtain ⟨k', rfl⟩ : ∃ k', k = k' + 1 := ⟨k - 1, by omega⟩
    unfold laws_roomFor.l0
    have e1 : Int.tdiv (j : Int) 8 = ((j / 8 : Nat) : Int) := by rw [Int.tdiv_eq_ediv_of_nonneg (by omega)]; omega
    have e2 : Int.tmod (j : Int) 8 = ((j % 8 : Nat) : Int) := by rw [Int.tmod_eq_emod_of_nonneg (by omega)]; omega
    have e3 : wrap64 ((j / 8 : Nat) : Int) = ((j / 8 : Nat) : Int) := by unfold wrap64; omega
    have e4 : wrap64 ((j : Int) + 1) = ((j + 1 : Nat) : Int) := by unfold wrap64; omega
    have e5 : rd (rb nb j) ((j / 8 : Nat) : Int) = (rb nb j).getD (j / 8) 0 := by unfold rd; rw [Int.toNat_natCast]
    rw [if_pos (by omega), e1, e2, e3, if_pos (by omega), if_pos (by rw [rb_len]; omega), if_pos (by omega), e4, e5, Int.toNat_natCast, rb_succ nb j (by omega)]
    exact ih (j + 1) k' (by omega) (by omega)
theorem room_all (N a : Nat) (hN : N ≤ 1048576) (ha : a ≤ 1000) : laws_roomFor.f (a + 1) N a = some ((N : Int), true, rb ((a + N + 7) / 8 + 1) a, (a : Int)) := by
  unfold laws_roomFor.f
  have e1 : wrap64 ((a : Int) + N) = ((a + N : Nat) : Int) := by unfold wrap64; omega
  have e2 : wrap64 (((a + N : Nat) : Int) + 7) = ((a + N + 7 : Nat) : Int) := by unfold wrap64; omega
  have e3 : Int.tdiv ((a + N + 7 : Nat) : Int) 8 = (((a + N + 7) / 8 : Nat) : Int) := by rw [Int.tdiv_eq_ediv_of_nonneg (by omega)]; omega
  have e4 : wrap64 (((a + N + 7) / 8 : Nat) : Int) = (((a + N + 7) / 8 : Nat) : Int) := by unfold wrap64; omega
  have e5 : wrap64 ((((a + N + 7) / 8 : Nat) : Int) + 1) = (((a + N + 7) / 8 + 1 : Nat) : Int) := by unfold wrap64; omega
  rw [e1, e2, e3, e4, e5, Int.toNat_natCast, if_pos (by omega), if_pos (by omega), ← rb_zero]
  exact room_loop N a _ (by omega) (by omega) a 0 (a + 1) (by omega) (by omega)
theorem room_bs (N a nb : Nat) (hnb : a / 8 < nb) : Bs (List.replicate a true) (rb nb a) := by
  refine ⟨fun i hi => ?_⟩
  rw [List.length_replicate] at hi
  rw [rb_at nb a i (by omega), List.drop_replicate, List.take_replicate, pk_rep]
theorem room_b0 (a nb : Nat) (hnb : a / 8 < nb) : (rb nb a).getD (a / 8) 0 = ((2 ^ (a % 8) - 1 : Nat) : Int) := by
  rw [rb_at nb a _ hnb, show min 8 (a - 8 * (a / 8)) = a % 8 by omega]
/-- Room: bytes of its own. -/
def RetRoom (N a : Nat) (w : World) (e : Ending) (w' : World) : Prop := ∃ B c, e = .returned (roomV N true B ((a + N + 7) / 8 + 1) c a) ∧ (a + N + 7) / 8 + 1 ≤ c ∧ Kd.C (Kd.int .u8) w' B ((a + N + 7) / 8 + 1) (rb ((a + N + 7) / 8 + 1) a) ∧ Below w.heap.size w w'
theorem room_fn (N a : Nat) (hN : N ≤ 1048576) (ha : a ≤ 1000) (w : World) : Calls Tryd.prog 8 #[.int .i64 N, .int .i64 a] w (RetRoom N a w) := by
  refine (laws_roomFor.calls (a + 1) N a _ _ _ _ w (room_all N a hN ha)).mono fun e w' => ?_
  rintro ⟨v, rfl, hr, hb⟩
  obtain ⟨A, c, rfl, hc, hC⟩ := reads_n (rb_len _ _) hr
  exact ⟨A, c, rfl, hc, hC, hb⟩
/-! ### how many entries -/
def cnt : Nat → T → Nat
  | 0, _ => 1
  | m + 1, t => if t.nul then 1 else if t.kids = [] then 1 else (t.kids.map (cnt m)).sum
theorem ent_cnt (n : Nat) : ∀ (m d r : Nat) (t : T), (ent n m d r t).length = cnt m t := by
  intro m
  induction m with
  | zero => intro d r t; unfold ent cnt; split <;> rfl
  | succ m ih =>
    intro d r t
    unfold ent cnt
    by_cases h : t.nul = true
    · rw [if_pos h, if_pos h]; rfl
    · rw [if_neg h, if_neg h]
      cases hk : t.kids with
      | nil => rfl
      | cons k ks =>
        simp only [List.length_append, List.length_flatMap, ih]
        simp
theorem cnt_le : ∀ (m : Nat) (ts : List T), (ts.map (cnt m)).sum ≤ ((List.range (m + 1)).map (fun j => (atT j ts).length)).sum := by
  intro m
  induction m with
  | zero => intro ts; simp [cnt, atT]; induction ts with
    | nil => simp
    | cons a l ih => simp [cnt] at ih ⊢; omega
  | succ m ih =>
    intro ts
    have h1 : (ts.map (cnt (m + 1))).sum ≤ ts.length + ((ts.flatMap T.kids).map (cnt m)).sum := by
      clear ih
      induction ts with
      | nil => simp
      | cons a l ihl =>
        simp only [List.map_cons, List.sum_cons, List.length_cons, List.flatMap_cons, List.map_append, List.sum_append]
        have : cnt (m + 1) a ≤ 1 + (a.kids.map (cnt m)).sum := by
          show (if a.nul then 1 else if a.kids = [] then 1 else (a.kids.map (cnt m)).sum) ≤ _
          split
          · omega
          · split <;> omega
        omega
    have h2 := ih (ts.flatMap T.kids)
    rw [List.range_succ_eq_map, List.map_cons, List.sum_cons, List.map_map]
    have h3 : ((List.range (m + 1)).map (fun j => (atT j (ts.flatMap T.kids)).length)) = (List.range (m + 1)).map ((fun j => (atT j ts).length) ∘ Nat.succ) := by
      apply List.map_congr_left
      intro j _
      rfl
    rw [h3] at h2
    show _ ≤ ts.length + _
    omega
theorem shred_bound (n : Nat) (hn : n ≤ 4) (ts : List T) (h : ∀ j, j ≤ n → (atT j ts).length ≤ 2000) : (shred n ts).length ≤ 10000 := by
  have h1 : (shred n ts).length = (ts.map (cnt n)).sum := by
    unfold shred
    rw [List.length_flatMap]
    simp only [ent_cnt]
  have h2 := cnt_le n ts
  have h3 : ((List.range (n + 1)).map (fun j => (atT j ts).length)).sum ≤ 2000 * (n + 1) := by
    have : ∀ k, k ≤ n + 1 → ((List.range k).map (fun j => (atT j ts).length)).sum ≤ 2000 * k := by
      intro k
      induction k with
      | zero => intro _; simp
      | succ k ih =>
        intro hk
        rw [List.range_succ, List.map_append, List.sum_append]
        have := ih (by omega)
        have := h k (by omega)
        simp
        omega
    exact this (n + 1) (Nat.le_refl _)
  omega
/-! ### what the levels tell -/
def ans (ts : List T) (L : Nat) : List (Bool × Nat) := (atT (L - 1) ts).map (fun t => (!t.nul, t.kids.length))
theorem sofar_all (n L first : Nat) (ts : List T) (hL : 1 ≤ L) (hn : L ≤ n) (h : ts.all (nested n) = true) : sofar L first (shred n ts) (shred n ts).length = (true, first) :: ans ts L := by
  unfold sofar
  rw [List.take_length, scan_all n L hL hn ts [(true, first)] h]
  rfl
theorem ans_tot (ts : List T) : tot (ts.map (fun t => (!t.nul, t.kids.length))) = (ts.flatMap T.kids).length := by
  induction ts with
  | nil => rfl
  | cons a l ih => simp only [List.map_cons, tot, ih, List.flatMap_cons, List.length_append]
theorem tot_all (ts : List T) (L first : Nat) (hL : 1 ≤ L) : tot ((true, first) :: ans ts L) = first + (atT L ts).length := by
  show first + tot (ans ts L) = _
  unfold ans
  rw [ans_tot, ← atT_succ, show L - 1 + 1 = L by omega]
theorem bits_ahead (a i : Nat) (l : List (Bool × Nat)) (h : i < a) : (bitsOf a l).getD i false = true := by
  simp [bitsOf, List.getD_eq_getElem?_getD, List.getElem?_append, h]
theorem bits_at (a i f : Nat) (us : List T) (h : i < us.length) : (bitsOf a ((true, f) :: us.map (fun t => (!t.nul, t.kids.length)))).getD (a + i) false = !(us.getD i (.mk false [])).nul := by
  simp [bitsOf, List.getD_eq_getElem?_getD, List.getElem?_append, List.getElem?_eq_getElem h, show ¬ (a + i < a) by omega]
theorem nuls_cons (f : Nat) (l : List (Bool × Nat)) : nuls ((true, f) :: l) = nuls l := rfl
theorem offs_diff (N f i : Nat) (us : List T) (hN : us.length = N) (h : i < N) : (offs N ((true, f) :: us.map (fun t => (!t.nul, t.kids.length)))).getD (i + 1) 0 = (offs N ((true, f) :: us.map (fun t => (!t.nul, t.kids.length)))).getD i 0 + ((us.getD i (.mk false [])).kids.length : Int) ∧
    0 ≤ (offs N ((true, f) :: us.map (fun t => (!t.nul, t.kids.length)))).getD i 0 ∧ (offs N ((true, f) :: us.map (fun t => (!t.nul, t.kids.length)))).getD (i + 1) 0 ≤ ((tot ((true, f) :: us.map (fun t => (!t.nul, t.kids.length))) : Nat) : Int) := by
  obtain ⟨st, hst⟩ : ∃ st, (true, f) :: us.map (fun t => (!t.nul, t.kids.length)) = st := ⟨_, rfl⟩
  have hl : st.length = N + 1 := by rw [← hst]; simp [hN]
  have hg : (st.getD (i + 1) (false, 0)).2 = (us.getD i (.mk false [])).kids.length := by
    rw [← hst]
    simp [List.getD_eq_getElem?_getD, List.getElem?_eq_getElem (show i < us.length by omega)]
  rw [hst]
  have e : ∀ j, j < N + 1 → (offs N st).getD j 0 = ((tot (st.take (j + 1)) : Nat) : Int) := fun j hj => by
    have h1 := ps_get st 0 j (by omega)
    rw [Nat.zero_add] at h1
    rw [← h1]
    unfold offs
    rw [hl, Nat.sub_self]
    simp
  have h2 := tot_take st (i + 1) (by omega)
  have h3 : tot (st.take (i + 1 + 1)) ≤ tot st := by
    have : tot st = tot (st.take (i + 1 + 1)) + tot (st.drop (i + 1 + 1)) := by rw [← tot_app, List.take_append_drop]
    omega
  rw [e (i + 1) (by omega), e i (by omega), h2, hg]
  refine ⟨by push_cast; rfl, by omega, ?_⟩
  rw [h2, hg] at h3
  omega
theorem offs_zero (N f : Nat) (l : List (Bool × Nat)) : (offs N ((true, f) :: l)).getD 0 0 = (f : Int) := by
  simp [offs, ps]
theorem offs_small (N f i : Nat) (us : List T) (hN : us.length = N) (h : i < N + 1) : 0 ≤ (offs N ((true, f) :: us.map (fun t => (!t.nul, t.kids.length)))).getD i 0 ∧ (offs N ((true, f) :: us.map (fun t => (!t.nul, t.kids.length)))).getD i 0 ≤ ((tot ((true, f) :: us.map (fun t => (!t.nul, t.kids.length))) : Nat) : Int) := by
  obtain ⟨st, hst⟩ : ∃ st, (true, f) :: us.map (fun t => (!t.nul, t.kids.length)) = st := ⟨_, rfl⟩
  have hl : st.length = N + 1 := by rw [← hst]; simp [hN]
  rw [hst]
  have e : (offs N st).getD i 0 = ((tot (st.take (i + 1)) : Nat) : Int) := by
    have h1 := ps_get st 0 i (by omega)
    rw [Nat.zero_add] at h1
    rw [← h1]
    unfold offs
    rw [hl, Nat.sub_self]
    simp
  have h3 : tot st = tot (st.take (i + 1)) + tot (st.drop (i + 1)) := by rw [← tot_app, List.take_append_drop]
  rw [e]
  omega


theorem far {w : World} {p : Addr} {v : Value} (h : w.cell? p = some v) : ∀ W : World, Below w.heap.size w W → W.cell? p = some v := fun W hb => (hb.cell (World.block_lt_of_cell? w _ h)).trans h
theorem same_loop (l : List Bool) (hs : l.length ≤ 1048576) : ∀ (d j k : Nat), j + d = l.length → d < k → spec_SameBools.l0 k l l l.length j = some true := by
  intro d
  induction d with
  | zero =>
    intro j k h1 h2
    obtain ⟨k', rfl⟩ : ∃ k', k = k' + 1 := ⟨k - 1, by omega⟩
    unfold spec_SameBools.l0
    rw [if_neg (by omega)]
  | succ d ih =>
    intro j k h1 h2
    obtain ⟨k', rfl⟩ : ∃ k', k = k' + 1 := ⟨k - 1, by omega⟩
    unfold spec_SameBools.l0
    have e4 : wrap64 ((j : Int) + 1) = ((j + 1 : Nat) : Int) := by unfold wrap64; omega
    rw [if_pos (by omega), if_pos (by omega), if_pos (by omega), if_pos (by omega), if_neg (by simp), e4]
    exact ih (j + 1) k' (by omega) (by omega)
theorem same_all (l : List Bool) (hs : l.length ≤ 1048576) : spec_SameBools.f (l.length + 1) l l = some true := by
  unfold spec_SameBools.f
  rw [if_pos rfl]
  exact same_loop l hs l.length 0 _ (by omega) (by omega)
theorem same_fn (A1 A2 : Option Addr) (n c1 c2 : Nat) (l : List Bool) (w : World) (h1 : Kd.C Kd.bool w A1 n l) (h2 : Kd.C Kd.bool w A2 n l) (hc1 : n ≤ c1) (hc2 : n ≤ c2) (hs : n ≤ 1048576) :
    Calls Tryd.prog 20 #[.slice A1 n c1, .slice A2 n c2] w (fun e w' => e = .returned (.bool true) ∧ Below w.heap.size w w') := by
  obtain rfl : l.length = n := h1.1
  refine (spec_SameBools.calls (l.length + 1) A1 c1 l A2 c2 l true w h1 hc1 h2 hc2 (same_all l hs)).mono fun e w' => ?_
  rintro ⟨rfl, nd, rfl⟩
  exact ⟨rfl, pw_below_drewN (Below.refl _ _) nd⟩
theorem at_B {w : World} {A : Option Addr} {n : Nat} {xs : List Bool} (h : Kd.C Kd.bool w A n xs) (k : Nat) (h1 : k < n) : ∃ ad, A = some ad ∧ w.cell? (ad.add k) = some (.bool (xs.getD k false)) := by
  obtain ⟨ad, c, e, _, hK, hc0⟩ := Kd.C_get h false (k : Int) (by omega) (by omega)
  have hc : ∀ j u, c[j]? = some u → w.cell? (ad.add (k * 1 + j)) = some u := hc0
  have hK : c = [.bool (xs.getD k false)] := hK
  subst hK
  exact ⟨ad, e, by have := hc 0 _ rfl; simpa using this⟩
set_option maxRecDepth 100000 in
set_option maxHeartbeats 8000000 in
theorem told_right (n a nn nb q c c2 : Nat) (A : Option Addr) (vs : List V) (bs : List Int) (w : World) (hV : Kd.C kV w A n vs) (hc2 : n ≤ c2) (hs : n ≤ 1048576) (hB : Kd.C (Kd.int .u8) w (some ⟨q, 0, none⟩) nb bs) (hnb : nb ≤ 1048576) (hroom : a + n ≤ 8 * nb)
    (h1 : ∀ i, i < a → bitAt bs i = true) (h2 : ∀ i, i < n → bitAt bs (a + i) = !(gv vs i).nul) (h3 : (vs.filter V.nul).length = nn) :
    Calls Tryd.prog 10 #[toldV n nn (some ⟨q, 0, none⟩) nb c, .slice A n c2, .int .i64 a] w (BoolB true w) := by
  have hvl : vs.length = n := hV.1
  have hE : (List.range n).map (fun i => bitAt bs (a + i)) = vs.map (fun v => !v.nul) := by
    apply List.ext_getElem
    · simp [hvl]
    · intro i g1 g2
      have hi : i < n := by simpa using g1
      simp only [List.getElem_map, List.getElem_range]
      rw [h2 i hi, gv_get vs i (by omega)]
  have hA1 : (List.range a).map (fun i => bitAt bs (0 + i)) = List.replicate a true := by
    apply List.ext_getElem
    · simp
    · intro i g1 g2
      have hi : i < a := by simpa using g1
      simp only [List.getElem_map, List.getElem_range, List.getElem_replicate]
      rw [Nat.zero_add]; exact h1 i hi
  have hnn : nn ≤ 1048576 := by rw [← h3]; exact Nat.le_trans (List.length_filter_le _ _) (by omega)
  have HV := Aside0.mk hV
  have HB := Aside0.mk hB
  have HE := Aside0.mk (And.intro hE hA1)
  have H3 := Aside0.mk h3
  have HBL1 := Aside0.mk (fun (W : World) (hb : Below w.heap.size w W) => bitList_fn (some ⟨q, 0, none⟩) nb c a n bs W (Kd.C_below hB hb) hnb hroom)
  have HBL2 := Aside0.mk (fun (W : World) (hb : Below w.heap.size w W) => bitList_fn (some ⟨q, 0, none⟩) nb c 0 a bs W (Kd.C_below hB hb) hnb (by omega))
  have HPr := Aside0.mk (fun (W : World) (hb : Below w.heap.size w W) => present_fn A n c2 vs W (Kd.C_below hV hb) hc2 hs)
  have HNl := Aside0.mk (fun (W : World) (hb : Below w.heap.size w W) => nullCount_fn A n c2 vs W (Kd.C_below hV hb) hc2 hs)
  rw [hE] at HBL1
  rw [hA1] at HBL2
  rw [h3] at HNl
  have HL := Aside0.mk (show (vs.map (fun v => !v.nul)).length = n by simp [hvl])
  unfold toldV
  clear hV hB h1 h2 h3 hE hA1 hvl
  go_enter Tryd.func10, Tryd.ntmps10
  have hb0 := (Below.refl w.heap.size w).alloc (Nat.le_refl _) (.cells #[.int .i64 n, .int .i64 nn, .slice (some ⟨q, 0, none⟩) nb c] 32)
  have HB0 := Aside0.mk hb0
  have hn0 := heap_alloc_new w (.cells #[.int .i64 n, .int .i64 nn, .slice (some ⟨q, 0, none⟩) nb c] 32)
  have HN0 := Aside0.mk hn0
  clear hb0 hn0
  go_wp2_with fail
  generalize w.alloc (.cells #[.int .i64 n, .int .i64 nn, .slice (some ⟨q, 0, none⟩) nb c] 32) = w1 at HB0 HN0 ⊢
  refine (HBL1.out w1 HB0.out).mono ?_
  rintro e w2 ⟨A3, c3, rfl, hc3, hC3, hb2⟩
  rw [HL.out] at hc3 hC3
  have HC3 := Aside0.mk hC3
  have HB2 := Aside0.mk (HB0.out.trans (hb2.mono HB0.out.size))
  have HN2 := Aside0.mk ((hb2.block w.heap.size (block_lt HN0.out)).trans HN0.out)
  have q2 : w2.cell? ⟨w.heap.size, 2, none⟩ = some (.slice (some ⟨q, 0, none⟩) nb c) := blk_cell HN2.out 2
  clear hC3 hb2 HBL1
  rw [HL.out]
  go_wp2_with fail
  refine (HBL2.out w2 HB2.out).mono ?_
  rintro e w3 ⟨A4, c4, rfl, hc4, hC4, hb3⟩
  rw [List.length_replicate] at hc4 hC4
  rw [List.length_replicate]
  have HC4 := Aside0.mk hC4
  have HB3 := Aside0.mk (HB2.out.trans (hb3.mono HB2.out.size))
  have HN3 := Aside0.mk ((hb3.block w.heap.size (block_lt HN2.out)).trans HN2.out)
  have HC33 := Aside0.mk (Kd.C_below HC3.out hb3)
  have ha8 : a ≤ 8388608 := by omega
  clear hC4 hb3 HBL2 q2 HC3
  go_wp2_with fail
  go_loopw [10, 31] (fun al i wr => al = .bool true ∧ ∃ (x : Nat), x ≤ a ∧ i = .int .i64 x ∧ Aside0 (wr = w3)) (fun _ i _ => a - (intOf i).toNat)
  case atStart => exact ⟨rfl, 0, Nat.zero_le _, rfl, ⟨rfl⟩⟩
  case round =>
    obtain ⟨rfl, x, hx, rfl, HW⟩ := hrel
    obtain rfl := HW.out
    by_cases hlt : x < a
    · obtain ⟨ad, rfl, b0⟩ := at_B HC4.out x hlt
      rw [show (List.replicate a true).getD x false = true by simp [List.getD_eq_getElem?_getD, hlt]] at b0
      go_wp2_with fail
      exact ⟨⟨rfl, x + 1, by omega, by go_num, ⟨trivial⟩⟩, by simp [intOf]; omega⟩
    · rename World => wr
      have q0 := far (show wr.cell? ⟨w.heap.size, 0, none⟩ = some (.int .i64 n) from blk_cell HN3.out 0)
      have q1 := far (show wr.cell? ⟨w.heap.size, 1, none⟩ = some (.int .i64 nn) from blk_cell HN3.out 1)
      have hnb0 : w.heap.size ≤ wr.heap.size := HB3.out.size
      go_wp2_with fail
      go_region_held3 (fun w' => Below wr.heap.size wr w') (first | exact Below.refl _ _ | exact (Below.refl _ _).drew | exact HW4.out | exact HW4.out.drew | exact HW5.out | exact HW5.out.drew | exact HW6.out | exact HW6.out.drew)
        (first
          | (have hg := HW5.out; clear hg; go_at_call 22; refine (HNl.out _ (HB3.out.trans (HW5.out.mono hnb0))).mono ?_; rintro e w6 ⟨rfl, hb6⟩; have HW6 := Aside0.mk (HW5.out.trans (hb6.mono HW5.out.size)); clear hb6)
          | (have hg := HW4.out; clear hg; go_at_call 20; refine (same_fn A3 A5 n c3 c5 _ w4 (Kd.C_below HC33.out HW4.out) HC5.out hc3 hc5 hs).mono ?_; rintro e w5 ⟨rfl, hb5⟩; have HW5 := Aside0.mk (HW4.out.trans (hb5.mono HW4.out.size)); clear hb5)
          | (go_at_call 21; refine (HPr.out (World.drew wr) HB3.out.drew).mono ?_; rintro e w4 ⟨A5, c5, rfl, hc5, hC5, hb4⟩; rw [HL.out] at hc5 hC5; rw [HL.out]; have HC5 := Aside0.mk hC5; have HW4 := Aside0.mk (below_undrew hb4 : Below wr.heap.size wr w4); clear hC5 hb4))
      all_goals
        go_wp2_with fail
        go_ret
        exact ⟨rfl, HB3.out.trans (HW6.out.mono hnb0)⟩


theorem All2.imp2 {α β : Type} {R S : α → β → Prop} (f : ∀ a b, R a b → S a b) {xs : List α} {bs : List β} (h : All2 R xs bs) : All2 S xs bs := All2.imp f h
theorem Row.le {w : World} {D E : Nat} (hDE : E ≤ D) {A : Option Addr} {n : Nat} {vs : List V} {ts : List T} (h : Row w D A n vs ts) : Row w E A n vs ts := ⟨h.row, All2.imp (fun _ _ => Rd.le hDE) h.all⟩
theorem all2_count {w : World} {D : Nat} : ∀ {vs : List V} {ts : List T}, All2 (Rd w D) vs ts → (vs.filter V.nul).length = nuls (ts.map (fun t => (!t.nul, t.kids.length)))
  | [], [], _ => rfl
  | v :: vs, t :: ts, h => by
    have h1 := (Rd.head h.1).1
    have h2 := all2_count h.2
    unfold nuls at h2 ⊢
    simp only [List.map_cons, List.filter_cons]
    rw [h1]
    cases t.nul <;> simp [h2]
  | [], _ :: _, h => h.elim
  | _ :: _, [], h => h.elim
theorem at_K {k : IntKind} {w : World} {A : Option Addr} {n : Nat} {xs : List Int} (h : Kd.C (Kd.int k) w A n xs) (i : Nat) (h1 : i < n) : ∃ ad, A = some ad ∧ w.cell? (ad.add i) = some (.int k (xs.getD i 0)) := by
  obtain ⟨ad, c, e, _, hK, hc0⟩ := Kd.C_get h 0 (i : Int) (by omega) (by omega)
  have hc : ∀ j u, c[j]? = some u → w.cell? (ad.add (i * 1 + j)) = some u := hc0
  have hK : c = [.int k (xs.getD i 0)] := hK
  subst hK
  exact ⟨ad, e, by have := hc 0 _ rfl; simpa using this⟩
theorem at_K0 {k : IntKind} {w : World} {p n : Nat} {xs : List Int} (h : Kd.C (Kd.int k) w (some ⟨p, 0, none⟩) n xs) (i : Nat) (h1 : i < n) : w.cell? ⟨p, i, none⟩ = some (.int k (xs.getD i 0)) := by
  obtain ⟨ad, e, hc⟩ := at_K h i h1
  obtain rfl := Option.some.inj e
  rwa [add_plain] at hc
theorem three_blocks (w : World) (o1 o2 o3 : Obj) : (((w.alloc o1).alloc o2).alloc o3).heap[w.heap.size]? = some o1 ∧ (((w.alloc o1).alloc o2).alloc o3).heap[w.heap.size + 1]? = some o2 ∧ (((w.alloc o1).alloc o2).alloc o3).heap[w.heap.size + 1 + 1]? = some o3 ∧
    (((w.alloc o1).alloc o2).alloc o3).heap.size = w.heap.size + 1 + 1 + 1 ∧ Below w.heap.size w (((w.alloc o1).alloc o2).alloc o3) := by
  have h1 := heap_alloc_new w o1
  have h2 := heap_alloc_new (w.alloc o1) o2
  have h3 := heap_alloc_new ((w.alloc o1).alloc o2) o3
  have e2 := Below.heap_alloc (w.alloc o1) o2 w.heap.size (by simp)
  have e3 := Below.heap_alloc ((w.alloc o1).alloc o2) o3 w.heap.size (by simp; omega)
  have f3 := Below.heap_alloc ((w.alloc o1).alloc o2) o3 (w.heap.size + 1) (by simp)
  exact ⟨e3.trans (e2.trans h1), f3.trans (by simpa using h2), by simpa using h3, by simp, (((Below.refl _ _).alloc (Nat.le_refl _) _).alloc (by simp) _).alloc (by simp; omega) _⟩
theorem made_rep (k : IntKind) (m : Nat) : madeCells #[Value.int k 0] m = (List.replicate m (Value.int k 0)).toArray := by
  apply Array.ext
  · simp [madeCells]
  · intro i h1 h2
    simp [madeCells, Nat.mod_one]
theorem set_K (k : IntKind) (m : Nat) (v : Int) : ((madeCells #[Value.int k 0] m).setIfInBounds 0 (.int k v)) = (((List.replicate m (0 : Int)).set 0 v).map (Value.int k) ++ []).toArray := by
  rw [List.append_nil, made_rep, List.setIfInBounds_toArray, List.map_set, List.map_replicate]
theorem offs_start (N f : Nat) : (List.replicate (N + 1) (0 : Int)).set 0 (f : Int) = offs N [(true, f)] := by
  unfold offs ps ps
  simp [List.replicate_succ]
theorem made_K (k : IntKind) (T : TypeId) (w : World) (m : Nat) : WK k (w.alloc (.cells (madeCells #[.int k 0] m) T)) w.heap.size T [] (List.replicate m 0) := by
  unfold WK
  rw [heap_alloc_new]
  congr 2
  apply Array.ext
  · simp [madeCells]
  · intro i h1 h2
    simp [madeCells, Nat.mod_one]

end Go.Proofs.YtcjobencclihdaaDoor.Lv
