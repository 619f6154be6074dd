/- The reference's batches over values, and when two lists of values are the same. -/
import Derived.Test.YtbghkoalmjfpiaaR4D
import Derived.StillTailTactics
namespace Go.Proofs.Ytbghkoalmjfpiaa.Plain
open Go.RowKit Go.Proofs.YtbghkoalmjfpiaaW.PrintWords Go.Proofs.YtbghkoalmjfpiaaW.PrintLast Go.Proofs.YtbghkoalmjfpiaaW.PrintMore Go.Proofs.Ytbghkoalmjfpiaa.PBatchedValues
set_option linter.unusedVariables false
set_option linter.unusedSimpArgs false

theorem info34 : (Try.prog.info? 34).map (fun i => (i.zero, i.size, i.bytes)) = some (some (.agg #[.bool false, .int .u64 0, .string ⟨#[]⟩, .slice none 0 0]), 4, 56) := by kernel_rfl
theorem bat_len {α : Type} {l r : List α} {b : List Int} (h : bat l b = some r) : r.length ≤ l.length := by
  unfold bat at h
  split at h
  · cases h
  · exact takes_len _ _ _ h
theorem bat_mem {α : Type} {l r : List α} {b : List Int} (h : bat l b = some r) : ∀ x ∈ r, x ∈ l := by
  unfold bat at h
  split at h
  · cases h
  · exact takes_mem _ _ _ h
theorem q_range {n : Nat} {b q : List Int} (h : bat (cnt n) b = some q) (j : Nat) (hj : j < q.length) : 0 ≤ rd q (j : Int) ∧ rd q (j : Int) < n := by
  have e : rd q (j : Int) = q[j] := by simp [rd, List.getD_eq_getElem?_getD, List.getElem?_eq_getElem hj]
  rw [e]
  exact cnt_mem (bat_mem h _ (List.getElem_mem hj))
def pick (l : List V) (q : List Int) (j : Nat) : List V := (q.take j).map fun i => gv l i.toNat
theorem pick_step (l : List V) (q : List Int) (j : Nat) (h : j < q.length) : pick l q (j + 1) = pick l q j ++ [gv l (rd q (j : Int)).toNat] := by
  unfold pick
  rw [List.take_succ_eq_append_getElem h, List.map_append]
  simp [rd, List.getD_eq_getElem?_getD, List.getElem?_eq_getElem h]
theorem pick_len (l : List V) (q : List Int) (j : Nat) : (pick l q j).length ≤ q.length := by
  unfold pick
  rw [List.length_map, List.length_take]
  omega
def SomeV (r : List V) (w : World) (e : Ending) (w' : World) : Prop := ∃ v, e = .returned (.tuple #[v, .bool true]) ∧ Kd.R kV 34 w' w.heap.size (fun _ => True) v r ∧ Below w.heap.size w w'
set_option maxRecDepth 100000 in
set_option maxHeartbeats 4000000 in
theorem batched_none (A B : Option Addr) (c d : Nat) (l : List V) (b : List Int) (w : World) (hl : Kd.C kV w A l.length l) (hb : Kd.C (Kd.int .i64) w B b.length b) (hc : l.length ≤ c) (hd : b.length ≤ d) (hn : l.length ≤ 1000)
    (hw : ∀ x ∈ b, -9223372036854775808 ≤ x ∧ x ≤ 9223372036854775807) (h : bat l b = none) :
    Calls Try.prog 15 #[.slice A l.length c, .slice B b.length d] w fun e w' => e = .returned (.tuple #[.slice none 0 0, .bool false]) ∧ Below w.heap.size w w' := by
  have HF := Aside0.mk (counted_f l.length (by omega))
  have hq : bat (cnt l.length) b = none := by
    rw [bat_cnt] at h
    cases hq : bat (cnt l.length) b with
    | none => rfl
    | some q => rw [hq] at h; cases h
  have HQ := Aside0.mk (show spec_Batched.f (3 * b.length + 1) (cnt l.length) b = some ([], false) by rw [batched_f (cnt l.length) b (by rw [cnt_len]; omega) hw, hq]; rfl)
  have HL := Aside0.mk hl
  have HB := Aside0.mk hb
  have HD := Aside0.mk hd
  clear hl hb hw h hq hc hd
  go_enter Try.func15, Try.ntmps15
  go_wp2_with (first | (go_at_call 35; (with_reducible refine (spec_Counted0.calls _ _ _ _ HF.out).mono ?_); rintro e w1 ⟨v1, rfl, hr1, hb1⟩; obtain ⟨A1, c1, rfl, hl1, hC1⟩ := Kd.R_reads hr1; have HC1 := Aside0.mk hC1; have HL1 := Aside0.mk hl1; have HB1 := Aside0.mk hb1; clear hr1 hl1 hC1 hb1) | (go_at_call 34; (with_reducible refine (spec_Batched.calls _ _ _ _ _ _ _ _ _ _ HC1.out HL1.out (Kd.C_below HB.out HB1.out) HD.out HQ.out).mono ?_); rintro e w2 ⟨v2, rfl, hr2, hb2⟩; have HB2 := Aside0.mk hb2; clear hr2 hb2))
  go_ret2
  exact ⟨rfl, HB1.out.trans (HB2.out.mono HB1.out.size)⟩
set_option maxRecDepth 100000 in
set_option maxHeartbeats 4000000 in
theorem batched_some (A B : Option Addr) (c d : Nat) (l r : List V) (b : List Int) (w : World) (hl : Kd.C kV w A l.length l) (hb : Kd.C (Kd.int .i64) w B b.length b) (hc : l.length ≤ c) (hd : b.length ≤ d) (hn : l.length ≤ 1000)
    (hw : ∀ x ∈ b, -9223372036854775808 ≤ x ∧ x ≤ 9223372036854775807) (h : bat l b = some r) :
    Calls Try.prog 15 #[.slice A l.length c, .slice B b.length d] w (SomeV r w) := by
  have HF := Aside0.mk (counted_f l.length (by omega))
  obtain ⟨q, hq, hr⟩ : ∃ q, bat (cnt l.length) b = some q ∧ r = pick l q q.length := by
    rw [bat_cnt] at h
    obtain ⟨q, h1, h2⟩ := Option.map_eq_some_iff.1 h
    exact ⟨q, h1, by rw [← h2, pick, List.take_length]⟩
  have hql : q.length ≤ 1000 := by have := bat_len hq; rw [cnt_len] at this; omega
  have HQ := Aside0.mk (show spec_Batched.f (3 * b.length + 1) (cnt l.length) b = some (q, true) by rw [batched_f (cnt l.length) b (by rw [cnt_len]; omega) hw, hq]; rfl)
  have HL := Aside0.mk hl
  have HB := Aside0.mk hb
  have HD := Aside0.mk hd
  have HQR := Aside0.mk (q_range hq)
  subst hr
  clear hl hb hw h hq hc hd
  go_enter Try.func15, Try.ntmps15
  go_wp2_with (first | (go_at_call 35; (with_reducible refine (spec_Counted0.calls _ _ _ _ HF.out).mono ?_); rintro e w1 ⟨v1, rfl, hr1, hb1⟩; obtain ⟨A1, c1, rfl, hl1, hC1⟩ := Kd.R_reads hr1; have HC1 := Aside0.mk hC1; have HL1 := Aside0.mk hl1; have HB1 := Aside0.mk hb1; clear hr1 hl1 hC1 hb1) | (go_at_call 34; (with_reducible refine (spec_Batched.calls _ _ _ _ _ _ _ _ _ _ HC1.out HL1.out (Kd.C_below HB.out HB1.out) HD.out HQ.out).mono ?_); rintro e w2 ⟨v2, rfl, hr2, hb2⟩; obtain ⟨A2, c2, rfl, hl2, hC2⟩ := Kd.R_reads hr2; have HC2 := Aside0.mk hC2; have HB2 := Aside0.mk (HB1.out.trans (hb2.mono HB1.out.size)); clear hr2 hl2 hC2 hb2))
  go_loopw [8, 23] (fun o i wr => ∃ j : Nat, j ≤ q.length ∧ i = .int .i64 j ∧ Aside0 (Kd.R kV 34 wr w2.heap.size (fun _ => True) o (pick l q j)) ∧ Aside0 (Below w2.heap.size w2 wr)) (fun _ i _ => q.length - (intOf i).toNat)
  case atStart => exact ⟨0, Nat.zero_le _, rfl, ⟨by simpa [pick] using Kd.R_nil _ _ _ _ _⟩, ⟨Below.refl _ _⟩⟩
  case round =>
    obtain ⟨j, hj, rfl, HO, HW2⟩ := hrel
    have HW := Aside0.mk (HB2.out.trans (HW2.out.mono HB2.out.size))
    by_cases hlt : j < q.length
    · obtain ⟨ad2, e2, g2⟩ := Kd.at_int (Kd.C_below HC2.out HW2.out) (j : Int) (by omega) (by omega)
      subst e2
      rw [Int.toNat_natCast] at g2
      obtain ⟨hx0, hx1⟩ := HQR.out j hlt
      obtain ⟨x, hx⟩ : ∃ x : Nat, rd q (j : Int) = (x : Int) := ⟨(rd q (j : Int)).toNat, by omega⟩
      have HS := Aside0.mk (pick_step l q j hlt)
      rw [hx] at g2 hx0 hx1 HS
      rw [Int.toNat_natCast] at HS
      have hxl : x < l.length := by omega
      clear hx hx0 hx1
      obtain ⟨ad, ea, f0, f1, f2, f3⟩ := at_V (Kd.C_below HL.out HW.out) x hxl
      subst ea
      rcases hv : gv l x with ⟨nul, num, txt, kA, kn, kc⟩
      rw [hv] at f0 f1 f2 f3 HS
      dsimp only at f0 f1 f2 f3
      clear hv
      have HPL := Aside0.mk (pick_len l q j)
      go_wp2_with (((with_reducible refine gate_builtin (b := .append) (xs := #[.tmp 27, .tmp 32]) rfl ?_); at_builtin; refine app1 kV (w0 := w2) w2.heap.size rfl (.tmp 27) (.tmp 32) 22 34 (.agg #[.bool false, .int .u64 0, .string ⟨#[]⟩, .slice none 0 0]) 56 rfl Try.underlying22 info34 rfl (by decide) (by omega) _ (pick l q j) ⟨nul, num, txt, kA, kn, kc⟩ [.bool nul, .int .u64 num, .string txt, .slice kA kn kc] rfl rfl rfl HO.out HW2.out HW2.out.size (by have := HPL.out; omega) ?_; intro v3 w3 ho hb3; rw [← HS.out] at ho; have HO3 := Aside0.mk ho; have HW3 := Aside0.mk hb3; clear ho hb3))
      go_roundw
      case rel => exact ⟨j + 1, by omega, by go_num, HO3, HW3⟩
      case measure => simp [intOf]; omega
    · obtain rfl : j = q.length := by omega
      go_wp2
      go_ret2
      exact ⟨_, rfl, Kd.R_lower HO.out HB2.out.size, HW.out⟩
/-- Two values that are the same, neither null nor with kids. -/
def same (a b : V) : Prop := a.nul = false ∧ b.nul = false ∧ a.num = b.num ∧ a.txt = b.txt ∧ a.kn = 0 ∧ b.kn = 0
set_option maxRecDepth 100000 in
theorem same_nil (A B : Option Addr) (c d : Nat) (w : World) : Calls Try.prog 16 #[.slice A 0 c, .slice B 0 d] w fun e w' => e = .returned (.bool true) ∧ w = w' := by
  go_enter Try.func16, Try.ntmps16
  go_wp2
  go_loopw [13] (fun i wr => i = .int .i64 0 ∧ w = wr) (fun _ _ => 0)
  case atStart => exact ⟨rfl, rfl⟩
  case round =>
    obtain ⟨rfl, rfl⟩ := hrel
    go_wp2
    go_ret
    exact ⟨rfl, rfl⟩
set_option maxRecDepth 100000 in
theorem same_one (n : Int) (t : ByteArray) (A B : Option Addr) (c d : Nat) (w : World) :
    Calls Try.prog 13 #[.agg #[.bool false, .int .u64 n, .string t, .slice A 0 c], .agg #[.bool false, .int .u64 n, .string t, .slice B 0 d]] w fun e w' => e = .returned (.bool true) ∧ Below w.heap.size w w' := by
  go_enter Try.func13, Try.ntmps13
  go_wp2_with (go_at_call 16; (with_reducible refine (same_nil _ _ _ _ _).mono ?_); rintro e w1 ⟨rfl, rfl⟩)
  go_ret
  exact ⟨rfl, grow0⟩
set_option maxRecDepth 100000 in
set_option maxHeartbeats 4000000 in
theorem same_any (A B : Option Addr) (c d n : Nat) (xs ys : List V) (w : World) (hx : Kd.C kV w A n xs) (hy : Kd.C kV w B n ys) (hn : n ≤ 1000) (hs : ∀ j, j < n → same (gv xs j) (gv ys j)) :
    Calls Try.prog 16 #[.slice A n c, .slice B n d] w fun e w' => e = .returned (.bool true) ∧ Below w.heap.size w w' := by
  have HX := Aside0.mk hx
  have HY := Aside0.mk hy
  have HS := Aside0.mk hs
  clear hx hy hs
  go_enter Try.func16, Try.ntmps16
  go_wp2
  go_loopw [13] (fun i wr => ∃ j : Nat, j ≤ n ∧ i = .int .i64 j ∧ Aside0 (Below w.heap.size w wr)) (fun i _ => n - (intOf i).toNat)
  case atStart => exact ⟨0, Nat.zero_le _, rfl, ⟨Below.refl _ _⟩⟩
  case round =>
    obtain ⟨j, hj, rfl, HW⟩ := hrel
    by_cases hlt : j < n
    · obtain ⟨ad, ea, f0, f1, f2, f3⟩ := at_V (Kd.C_below HX.out HW.out) j hlt
      obtain ⟨bd, eb, g0, g1, g2, g3⟩ := at_V (Kd.C_below HY.out HW.out) j hlt
      obtain ⟨s1, s2, s3, s4, s5, s6⟩ := HS.out j hlt
      subst ea
      subst eb
      rcases hv : gv xs j with ⟨nul, num, txt, kA, kn, kc⟩
      rcases hu : gv ys j with ⟨nul', num', txt', kA', kn', kc'⟩
      rw [hv] at f0 f1 f2 f3 s1 s3 s4 s5
      rw [hu] at g0 g1 g2 g3 s2 s3 s4 s6
      dsimp only at f0 f1 f2 f3 g0 g1 g2 g3 s1 s2 s3 s4 s5 s6
      subst s1 s2 s3 s4 s5 s6
      clear hv hu
      have hk0 : (0 : Int) ≤ (j : Int) := by omega
      have hk1 : (j : Int) < (n : Int) := by omega
      go_wp2_with fail
      go_still_tail 8, (by kernel_rfl)
      go_wp2_with (go_at_call 13; (with_reducible refine (same_one _ _ _ _ _ _ _).mono ?_); rintro e w1 ⟨rfl, hb⟩)
      go_roundw
      case rel => exact ⟨j + 1, by omega, by go_num, ⟨below_step HW.out (show Below wr.heap.size wr w1 from below_then (below_drew1 (Below.refl _ _)) (by simp) hb)⟩⟩
      case measure => simp [intOf]; omega
    · obtain rfl : j = n := by omega
      go_wp2
      go_ret
      exact ⟨rfl, HW.out⟩

end Go.Proofs.Ytbghkoalmjfpiaa.Plain
