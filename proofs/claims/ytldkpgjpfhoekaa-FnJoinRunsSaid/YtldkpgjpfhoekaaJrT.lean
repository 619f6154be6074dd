/- The law's parts: sizes, the first call, the reference's calls, what the guards say. -/
import Derived.Test.YtldkpgjpfhoekaaJrI
import Derived.Test.YtldkpgjpfhoekaaJrQ
namespace Go.Proofs.Ytldkpgjpfhoekaa.Join
open Go.RowKit Go.Proofs.YtldkpgjpfhoekaaW.PrintWords Go.Proofs.YtldkpgjpfhoekaaW.PrintLast Go.Proofs.YtldkpgjpfhoekaaW.PrintMore
open Go.Proofs.Ytldkpgjpfhoekaa.POffsetsOf Go.Proofs.Ytldkpgjpfhoekaa.PBytesOf Go.Proofs.Ytldkpgjpfhoekaa.PsameBytes
set_option linter.unusedVariables false
set_option linter.unusedSimpArgs false

/-! ### sizes -/
theorem fits14_yes (b : Bool) (A : Option Addr) (n c : Nat) (x y : Int) (w : World) (h : n ≤ 2147483647) : Calls Try.prog 9 #[.agg #[.bool b, .slice A n c, .int .i64 x, .int .i64 y]] w (fun e w' => e = .returned (.bool true) ∧ Below w.heap.size w w') := by
  have h' : ¬ 2147483647 < n := by omega
  go_enter Try.func9, Try.ntmps9
  go_wp2
  go_ret
  exact ⟨rfl, by go_grown⟩
theorem fits14_no (b : Bool) (A : Option Addr) (n c : Nat) (x y : Int) (w : World) (h : 2147483647 < n) : Calls Try.prog 9 #[.agg #[.bool b, .slice A n c, .int .i64 x, .int .i64 y]] w (fun e w' => e = .returned (.bool false) ∧ Below w.heap.size w w') := by
  go_enter Try.func9, Try.ntmps9
  go_wp2
  go_ret
  exact ⟨rfl, by go_grown⟩
def FitsP (n : Nat) (ps : List Pt) : Prop := n ≤ 2147483647 ∧ ∀ j, j < n → (gp ps j).n ≤ 2147483647
def RetFits (n : Nat) (ps : List Pt) (w : World) (e : Ending) (w' : World) : Prop := ∃ b, e = .returned (.bool b) ∧ (b = true → FitsP n ps) ∧ Below w.heap.size w w'
def Fine (w : World) (e : Ending) (w' : World) : Prop := e = .returned (.bool true) ∧ Below w.heap.size w w'
set_option maxRecDepth 100000 in
set_option maxHeartbeats 4000000 in
theorem fits13_any (A : Option Addr) (n c : Nat) (ps : List Pt) (w : World) (h : Kd.C kP w A n ps) : Calls Try.prog 4 #[.slice A n c] w (RetFits n ps w) := by
  by_cases hn : n ≤ 2147483647
  · have HP := Aside0.mk h
    clear h
    have hn' : ¬ 2147483647 < n := by omega
    go_enter Try.func4, Try.ntmps4
    go_wp2_with fail
    go_loopw [10] (fun i wr => ∃ k : Nat, k ≤ n ∧ i = .int .i64 k ∧ Aside0 (∀ j, j < k → (gp ps j).n ≤ 2147483647) ∧ Aside0 (Below w.heap.size w wr)) (fun i _ => n - (intOf i).toNat)
    case atStart => exact ⟨0, Nat.zero_le _, rfl, ⟨fun j hj => by omega⟩, ⟨Below.refl _ _⟩⟩
    case round =>
      obtain ⟨k, hk, rfl, HS, HB⟩ := hrel
      by_cases hlt : k < n
      · obtain ⟨ad, rfl, c0, c1, c2, c3⟩ := at_P (Kd.C_below HP.out HB.out) k hlt
        have HE : Aside0 (∀ p, p.n ≤ 2147483647 → p = gp ps k → ∀ j, j < k + 1 → (gp ps j).n ≤ 2147483647) := ⟨fun p hp e j hj => by
          rcases Nat.lt_or_ge j k with h | h
          · exact HS.out j h
          · obtain rfl : j = k := by omega
            rw [← e]; exact hp⟩
        obtain ⟨p, hp⟩ : ∃ p, p = gp ps k := ⟨_, rfl⟩
        have HG := Aside0.mk (fun h => HE.out p h hp)
        rw [← hp] at c0 c1 c2 c3
        clear hp HE
        rcases p with ⟨has, pA, pn, pc, off, len⟩
        dsimp only at c0 c1 c2 c3 HG
        by_cases hpn : pn ≤ 2147483647
        · go_wp2_with (go_at_call 9; refine (fits14_yes has pA pn pc off len _ hpn).mono ?_; rintro e w2 ⟨rfl, hb2⟩; have HB2 := Aside0.mk (HB.out.trans ((((Below.refl _ _).alloc (Nat.le_refl _) _).trans (hb2.mono (by simp))).mono HB.out.size)); clear hb2)
          go_roundw
          case rel => exact ⟨k + 1, by omega, by go_num, ⟨HG.out hpn⟩, HB2⟩
          case measure => simp [intOf]; omega
        · go_wp2_with (go_at_call 9; refine (fits14_no has pA pn pc off len _ (by omega)).mono ?_; rintro e w2 ⟨rfl, hb2⟩; have HB2 := Aside0.mk (HB.out.trans ((((Below.refl _ _).alloc (Nat.le_refl _) _).trans (hb2.mono (by simp))).mono HB.out.size)); clear hb2)
          go_ret
          exact ⟨false, rfl, (fun h => by cases h), HB2.out⟩
      · obtain rfl : k = n := by omega
        go_wp2_with fail
        go_ret
        exact ⟨true, rfl, fun _ => ⟨hn, HS.out⟩, HB.out⟩
  · have hn' : 2147483647 < n := by omega
    go_enter Try.func4, Try.ntmps4
    go_wp2_with fail
    go_ret
    exact ⟨false, rfl, (fun h => by cases h), Below.refl _ _⟩
set_option maxRecDepth 100000 in
set_option maxHeartbeats 4000000 in
theorem fits13_yes (A : Option Addr) (n c : Nat) (ps : List Pt) (w : World) (h : Kd.C kP w A n ps) (hf : FitsP n ps) : Calls Try.prog 4 #[.slice A n c] w (Fine w) := by
  by_cases hn : n ≤ 2147483647
  · have HP := Aside0.mk h
    have HFP := Aside0.mk hf
    clear h hf
    have hn' : ¬ 2147483647 < n := by omega
    go_enter Try.func4, Try.ntmps4
    go_wp2_with fail
    go_loopw [10] (fun i wr => ∃ k : Nat, k ≤ n ∧ i = .int .i64 k ∧ Aside0 (∀ j, j < k → (gp ps j).n ≤ 2147483647) ∧ Aside0 (Below w.heap.size w wr)) (fun i _ => n - (intOf i).toNat)
    case atStart => exact ⟨0, Nat.zero_le _, rfl, ⟨fun j hj => by omega⟩, ⟨Below.refl _ _⟩⟩
    case round =>
      obtain ⟨k, hk, rfl, HS, HB⟩ := hrel
      by_cases hlt : k < n
      · obtain ⟨ad, rfl, c0, c1, c2, c3⟩ := at_P (Kd.C_below HP.out HB.out) k hlt
        have HE : Aside0 (∀ p, p.n ≤ 2147483647 → p = gp ps k → ∀ j, j < k + 1 → (gp ps j).n ≤ 2147483647) := ⟨fun p hp e j hj => by
          rcases Nat.lt_or_ge j k with h | h
          · exact HS.out j h
          · obtain rfl : j = k := by omega
            rw [← e]; exact hp⟩
        obtain ⟨p, hp⟩ : ∃ p, p = gp ps k := ⟨_, rfl⟩
        have hpk := HFP.out.2 k hlt
        have HG := Aside0.mk (fun h => HE.out p h hp)
        rw [← hp] at c0 c1 c2 c3 hpk
        clear hp HE
        rcases p with ⟨has, pA, pn, pc, off, len⟩
        dsimp only at c0 c1 c2 c3 HG hpk
        by_cases hpn : pn ≤ 2147483647
        · go_wp2_with (go_at_call 9; refine (fits14_yes has pA pn pc off len _ hpn).mono ?_; rintro e w2 ⟨rfl, hb2⟩; have HB2 := Aside0.mk (HB.out.trans ((((Below.refl _ _).alloc (Nat.le_refl _) _).trans (hb2.mono (by simp))).mono HB.out.size)); clear hb2)
          go_roundw
          case rel => exact ⟨k + 1, by omega, by go_num, ⟨HG.out hpn⟩, HB2⟩
          case measure => simp [intOf]; omega
        · exact absurd hpk hpn
      · obtain rfl : k = n := by omega
        go_wp2_with fail
        go_ret
        exact ⟨rfl, HB.out⟩
  · exact absurd hf.1 hn
theorem fits13_no (A : Option Addr) (n c : Nat) (ps : List Pt) (w : World) (h : Kd.C kP w A n ps) (hf : ¬ FitsP n ps) : Calls Try.prog 4 #[.slice A n c] w (fun e w' => e = .returned (.bool false) ∧ Below w.heap.size w w') := by
  refine (fits13_any A n c ps w h).mono ?_
  rintro e w' ⟨b, rfl, hb, hw⟩
  cases b
  · exact ⟨rfl, hw⟩
  · exact absurd (hb rfl) hf
/-! ### the reference's calls -/
noncomputable def dec (z : Nat) (l : List Int) : List Int := Classical.epsilon fun r => ∃ k, spec_OffsetsOf.f k l z = some r ∧ (l.length % z = 0 → bytesL z (usz z r) = l)
theorem dec_spec {z : Nat} (hz : z = 2 ∨ z = 4 ∨ z = 8) {l : List Int} (hb : ByteL l) (hl : l.length ≤ 2147483647) : ∃ k, spec_OffsetsOf.f k l z = some (dec z l) ∧ (l.length % z = 0 → bytesL z (usz z (dec z l)) = l) := by
  obtain ⟨k, r, h1, h2⟩ := offs z hz l hb hl
  exact Classical.epsilon_spec (p := fun r => ∃ k, spec_OffsetsOf.f k l z = some r ∧ (l.length % z = 0 → bytesL z (usz z r) = l)) ⟨r, k, h1, h2⟩
theorem row_base {α : Type} {d : Kd α} {e base : Nat} {ok : Nat → Prop} {w : World} {A : Option Addr} {n c : Nat} {xs : List α} (h : Kd.R d e w base ok (.slice A n c) xs) (hn : 0 < n) (hl : xs.length = n) : ∃ g, A = some ⟨g, 0, none⟩ ∧ base ≤ g := by
  obtain ⟨inner, hown⟩ := Kd.R_own h
  rcases hown with ⟨_, ⟨e1, hn1⟩ | ⟨g, cap, cur, e1, hb, _⟩⟩
  · omega
  · injection e1 with eA _ _
    exact ⟨g, eA, hb⟩
def Ret64 (xs : List Int) (w : World) (e : Ending) (w' : World) : Prop := ∃ A c, e = .returned (.slice A xs.length c) ∧ xs.length ≤ c ∧ Kd.C (Kd.int .i64) w' A xs.length xs ∧ Below w.heap.size w w' ∧ (0 < xs.length → ∃ g, A = some ⟨g, 0, none⟩ ∧ w.heap.size ≤ g)
theorem offsOf (z : Nat) (hz : z = 2 ∨ z = 4 ∨ z = 8) (A : Option Addr) (n c : Nat) (l : List Int) (w : World) (hl : l.length = n) (h : Kd.C (Kd.int .u8) w A n l) (hc : n ≤ c) (hb : ByteL l) (hn : n ≤ 2147483647) :
    Calls Try.prog 7 #[.slice A n c, .int .i64 z] w (Ret64 (dec z l) w) := by
  subst hl
  obtain ⟨k, hk, _⟩ := dec_spec hz hb hn
  refine (spec_OffsetsOf.calls k A c l z _ w h hc hk).mono ?_
  rintro e w' ⟨v, rfl, hr, hb⟩
  obtain ⟨A', c', rfl, hc', hC⟩ := Kd.R_reads hr
  exact ⟨A', c', rfl, hc', hC, hb, fun h0 => row_base hr h0 rfl⟩
theorem bytsOf (z : Nat) (hz : z ≤ 8) (A : Option Addr) (n c N : Nat) (l : List Int) (w : World) (hl : l.length = n) (h : Kd.C (Kd.int .i64) w A n l) (hc : n ≤ c) (hn : n ≤ 100000) (hN : n * z = N) :
    Calls Try.prog 8 #[.slice A n c, .int .i64 z] w (fun e w' => ∃ A' c', e = .returned (.slice A' N c') ∧ N ≤ c' ∧ Kd.C (Kd.int .u8) w' A' N (bytesL z (usz z l)) ∧ Below w.heap.size w w') := by
  subst hl
  obtain ⟨k, hk⟩ := byts z hz l hn
  refine (spec_BytesOf.calls k A c l z _ w h hc hk).mono ?_
  rintro e w' ⟨v, rfl, hr, hb⟩
  obtain ⟨A', c', rfl, hc', hC⟩ := reads_n (n := N) (by rw [bytesL_len, usz_len, hN]) hr
  exact ⟨A', c', rfl, hc', hC, hb⟩
theorem sameB (A B : Option Addr) (n c d : Nat) (l : List Int) (w : World) (hl : l.length = n) (h0 : Kd.C (Kd.int .u8) w A n l) (h1 : Kd.C (Kd.int .u8) w B n l) (hc : n ≤ c) (hd : n ≤ d) :
    Calls Try.prog 6 #[.slice A n c, .slice B n d] w (fun e w' => e = .returned (.bool true) ∧ Below w.heap.size w w') := by
  subst hl
  exact (laws_sameBytes.calls A c l B d l true w h0 hc h1 hd (same_self l)).mono fun e w' h => ⟨h.1, h.2.below⟩
/-! ### the first call -/
theorem fit_one : Fit [(0, 3)] [[3]] 1 :=
  ⟨rfl, rfl, by omega, fun k hk => by
    obtain rfl : k = 0 := by omega
    exact ⟨by decide, by decide, by decide, by decide, by decide, by decide, by decide, by decide⟩⟩
theorem goes_one (W : World) : Goes ((W.alloc (.cells #[.int .u8 3, .int .u8 0] 5)).alloc (.cells #[.bool true, .slice (some ⟨W.heap.size, 0, none⟩) 2 2, .int .i64 0, .int .i64 3] 28)) (some ⟨W.heap.size + 1, 0, none⟩) 1 [⟨true, some ⟨W.heap.size, 0, none⟩, 2, 2, 0, 3⟩] 2 [[3]] := by
  obtain ⟨b1, b2⟩ := two_blocks W (.cells #[.int .u8 3, .int .u8 0] 5) (.cells #[.bool true, .slice (some ⟨W.heap.size, 0, none⟩) 2 2, .int .i64 0, .int .i64 3] 28)
  have hbl : bytesL 2 (usz 2 [3]) = [3, 0] := by decide
  refine ⟨.inl rfl, ⟨rfl, by decide, fun _ => ⟨_, rfl, fun j p hp => ?_⟩⟩, fun k hk => ?_, ⟨rfl, fun j hj => ?_⟩, fit_one⟩
  · match j, hp with
    | 0, hp =>
      injection hp with hp
      subst hp
      refine ⟨_, rfl, rfl, fun i u hu => ?_⟩
      rw [add_plain, blk_cell b2]
      simpa [Pt.enc] using hu
  · obtain rfl : k = 0 := by omega
    rfl
  · obtain rfl : j = 0 := by simpa using hj
    refine ⟨⟨by rw [show ([[3]].map (fun E => bytesL 2 (usz 2 E))).getD 0 [] = [3, 0] from hbl]; rfl, by show (2 : Nat) ≤ _; omega, fun _ => ⟨_, rfl, fun i hi => ?_⟩⟩, Nat.le_refl _, by show (2 : Nat) ≤ _; omega⟩
    rw [add_plain, blk_cell b1, show ([[3]].map (fun E => bytesL 2 (usz 2 E))).getD 0 [] = [3, 0] from hbl]
    have hi2 : i < 2 := hi
    match i, hi2 with
    | 0, _ => rfl
    | 1, _ => rfl
theorem first (W : World) : Calls Try.prog 5 #[.slice (some ⟨W.heap.size + 1, 0, none⟩) 1 1, .int .i64 2] ((W.alloc (.cells #[.int .u8 3, .int .u8 0] 5)).alloc (.cells #[.bool true, .slice (some ⟨W.heap.size, 0, none⟩) 2 2, .int .i64 0, .int .i64 3] 28))
    (fun e w' => ∃ A c, e = .returned (.tuple #[.slice A 2 c, .bool true]) ∧ 2 ≤ c ∧ Kd.C (Kd.int .u8) w' A 2 [3, 0] ∧ Below W.heap.size W w') := by
  refine (joinRuns _ 1 1 2 1 2 _ _ _ (goes_one W) (Nat.le_refl _) rfl rfl).mono ?_
  rintro e w' ⟨A, c, rfl, hc, hC, hb⟩
  have hbl : bytesL 2 (usz 2 (jn ([(⟨true, some ⟨W.heap.size, 0, none⟩, 2, 2, 0, 3⟩ : Pt)].map offLen) [[3]] 1)) = [3, 0] := by show bytesL 2 (usz 2 (jn [(0, 3)] [[3]] 1)) = [3, 0]; decide
  rw [hbl] at hC
  exact ⟨A, c, rfl, hc, hC, (((Below.refl _ _).alloc (Nat.le_refl _) _).alloc (by simp) _).trans (hb.mono (by simp; omega))⟩
/-! ### what the guards say -/
structure Inn (off len : Int) (E : List Int) (m : Nat) : Prop where
  at_ : ∀ j : Nat, j < m → off + j < E.getD j 0 ∧ E.getD j 0 ≤ 16384 ∧ (j + 1 < E.length → E.getD j 0 < off + len) ∧ (j + 1 = E.length → off + len ≤ E.getD j 0)
theorem Inn.zero (off len : Int) (E : List Int) : Inn off len E 0 := ⟨fun j hj => by omega⟩
theorem Inn.step {off len : Int} {E : List Int} {m : Nat} (h : Inn off len E m) (h1 : off + m < E.getD m 0) (h2 : E.getD m 0 ≤ 16384) (h3 : m + 1 < E.length → E.getD m 0 < off + len) (h4 : m + 1 = E.length → off + len ≤ E.getD m 0) : Inn off len E (m + 1) :=
  ⟨fun j hj => by
    rcases Nat.lt_or_ge j m with hlt | hge
    · exact h.at_ j hlt
    · obtain rfl : j = m := by omega
      exact ⟨h1, h2, h3, h4⟩⟩
theorem Inn.fit {off len : Int} {E : List Int} (h : Inn off len E E.length) (h0 : 0 ≤ off) (h1 : off ≤ 1000) (h2 : 1 ≤ len) (h3 : len ≤ 500) (h4 : 0 < E.length) : Fit1 off len E := by
  have hl : E.length ≤ 500 := by
    rcases Nat.lt_or_ge 1 E.length with hgt | hle
    · obtain ⟨a1, _, a3, _⟩ := h.at_ (E.length - 2) (by omega)
      have := a3 (by omega)
      omega
    · omega
  refine ⟨h0, h1, h2, h3, h4, hl, fun x hx => ?_, (h.at_ (E.length - 1) (by omega)).2.2.2 (by omega)⟩
  obtain ⟨j, hj, rfl⟩ := List.getElem_of_mem hx
  have := h.at_ j hj
  rw [List.getD_eq_getElem?_getD, List.getElem?_eq_getElem hj, Option.getD_some] at this
  omega
def part (s off len : Int) (E : List Int) : List Int := E.map (fun e => s + min (e - off) len)
theorem part_one {off len s : Int} {E : List Int} (h : Inn off len E E.length) (h4 : 0 < E.length) : part s off len E = one s off len E := by
  unfold part one
  apply List.ext_getElem
  · simp; omega
  · intro j a1 a2
    have hj : j < E.length := by simpa using a1
    obtain ⟨_, _, h3, h5⟩ := h.at_ j hj
    have e : E.getD j 0 = E[j] := by simp [List.getD_eq_getElem?_getD, List.getElem?_eq_getElem hj]
    rw [e] at h3 h5
    by_cases hl : j + 1 = E.length
    · rw [List.getElem_append_right (by simp; omega)]
      simp
      have := h5 hl
      rw [Int.min_eq_right (by omega)]
    · rw [List.getElem_append_left (by simp; omega)]
      simp
      have := h3 (by omega)
      rw [Int.min_eq_left (by omega)]
      omega
theorem part_snoc (s off len : Int) (E : List Int) (m : Nat) (h : m < E.length) : part s off len (E.take (m + 1)) = part s off len (E.take m) ++ [s + min (E.getD m 0 - off) len] := map_snoc (fun e => s + min (e - off) len) E m 0 h
theorem lit2 (w : World) : Kd.C (Kd.int .u8) (w.alloc (.cells #[.int .u8 3, .int .u8 0] 5)) (some ⟨w.heap.size, 0, none⟩) 2 [3, 0] := by
  refine Kd.C_of_reads (enc := Value.int .u8) (h1 := fun _ => rfl) (d := (0 : Int)) ⟨rfl, by decide, fun _ => ⟨_, rfl, fun j hj => ?_⟩⟩
  rw [add_plain, blk_cell (heap_alloc_new w (.cells #[.int .u8 3, .int .u8 0] 5))]
  match j, hj with
  | 0, _ => rfl
  | 1, _ => rfl
theorem gd_sum {ol : List (Int × Int)} {es : List (List Int)} {k : Nat} (h : ∀ j, j < k → Fit1 (offAt ol j) (lenAt ol j) (es.getD j [])) : (k : Int) ≤ sm ol k ∧ sm ol k ≤ 500 * k ∧ (jn ol es k).length ≤ 500 * k := by
  induction k with
  | zero => simp [sm, jn]
  | succ k ih =>
    obtain ⟨a1, a2, a3⟩ := ih (fun j hj => h j (by omega))
    have hk := h k (by omega)
    have := hk.len1
    have := hk.len5
    have := hk.cnt5
    rw [sm, jn_len ol es k hk.cnt0]
    push_cast
    omega
theorem off_at (ps : List Pt) (k : Nat) (h : k < ps.length) : offAt (ps.map offLen) k = (gp ps k).off ∧ lenAt (ps.map offLen) k = (gp ps k).len := by
  simp [offAt, lenAt, gp, List.getD_eq_getElem?_getD, List.getElem?_eq_getElem h, offLen]
theorem dec_at (z : Nat) (rs : List (List Int)) (k : Nat) (h : k < rs.length) : (rs.map (dec z)).getD k [] = dec z (rs.getD k []) := by
  simp [List.getD_eq_getElem?_getD, List.getElem?_eq_getElem h]
def Ret64n (xs : List Int) (m : Nat) (w : World) (e : Ending) (w' : World) : Prop := ∃ A c, e = .returned (.slice A m c) ∧ m ≤ c ∧ Kd.C (Kd.int .i64) w' A m xs ∧ Below w.heap.size w w' ∧ (0 < m → ∃ g, A = some ⟨g, 0, none⟩ ∧ w.heap.size ≤ g)
theorem ret64_n {xs : List Int} {m : Nat} {w : World} (hm : xs.length = m) {e : Ending} {w' : World} (h : Ret64 xs w e w') : Ret64n xs m w e w' := by
  subst hm
  exact h
theorem cell_of_block {w w1 : World} {g o : Nat} (h : w1.heap[g]? = w.heap[g]?) : w1.cell? ⟨g, o, none⟩ = w.cell? ⟨g, o, none⟩ := by simp [World.cell?, h]

end Go.Proofs.Ytldkpgjpfhoekaa.Join
