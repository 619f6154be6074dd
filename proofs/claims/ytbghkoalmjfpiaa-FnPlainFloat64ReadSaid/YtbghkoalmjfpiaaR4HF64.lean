/- Batches of numbers. -/
import Derived.Test.YtbghkoalmjfpiaaR4XF64
namespace Go.Proofs.Ytbghkoalmjfpiaa.Plain
open Go.RowKit Go.Proofs.YtbghkoalmjfpiaaW.PrintWords Go.Proofs.YtbghkoalmjfpiaaW.PrintLast Go.Proofs.YtbghkoalmjfpiaaW.PrintMore Go.Proofs.Ytbghkoalmjfpiaa.PBatchedValues
set_option linter.unusedVariables false
set_option linter.unusedSimpArgs false

/-- Batches are read one behind the other: what they take of the values. -/
def ReadF64 (W : World) (g : Nat) (r : List V) (e : Ending) (w' : World) : Prop :=
  ∃ v xs, e = .returned (.tuple #[v, .bool true]) ∧ W.grownBy w' (some g) ∧ Kd.R (Kd.scalar (Value.float .f64) (fun _ => rfl)) 123 w' W.heap.size (fun _ => True) v xs ∧ All2 (fun x v => decVF64 v = x) xs r
theorem infoEF64 : (Try.prog.info? 123).map (fun i => (i.zero, i.size, i.bytes)) = some (some (.float .f64 0), 1, 8) := by kernel_rfl
set_option maxRecDepth 100000 in
set_option maxHeartbeats 8000000 in
theorem decodedF64 (dd : Nat) (g c d : Nat) (A B : Option Addr) (l r : List V) (b : List Int) (W w : World) (ho : OkF64 0 l) (hb : ∀ wr, W.grownBy wr (some g) → Kd.C (Kd.int .i64) wr B b.length b) (h : DB 124 (mkF64 0) W g w l.length (l.flatMap encF64) A c)
    (hw : ∀ x ∈ b, -9223372036854775808 ≤ x ∧ x ≤ 9223372036854775807) (hbat : bat l b = some r) :
    Calls Try.prog 67 #[.slice B b.length d, .func (.func 68) #[.pointer (some ⟨g, 0, none⟩)] #[], .func (.func 69) #[.pointer (some ⟨g, 0, none⟩)] #[]] w (ReadF64 W g r) := by
  have hb50 : b.length ≤ 50 := by
    unfold bat at hbat
    split at hbat
    · cases hbat
    · omega
  have htk : takes l b = some r := by
    unfold bat at hbat
    rwa [if_neg (by omega)] at hbat
  have hl5 : l.length ≤ 500 := ho.2.2.1
  have HH := Aside0.mk h
  have HB := Aside0.mk hb
  have HO := Aside0.mk ho
  have HW := Aside0.mk hw
  have HT := Aside0.mk htk
  clear h hb ho hw htk hbat
  go_enter Try.func67, Try.ntmps67
  go_wp2
  go_loopw [6, 17] (fun o i wr => ∃ (j : Nat) (A : Option Addr) (c : Nat) (rem acc rest : List V) (xs : List Nat), j ≤ b.length ∧ i = .int .i64 j ∧ rem.length ≤ 500 ∧ acc.length ≤ 500 ∧ Aside0 (acc.length + rem.length ≤ l.length) ∧ Aside0 (OkF64 0 rem) ∧ Aside0 (DB 124 (mkF64 0) W g wr rem.length (rem.flatMap encF64) A c) ∧ Aside0 (takes rem (b.drop j) = some rest) ∧ Aside0 (r = acc ++ rest) ∧ Aside0 (Kd.R (Kd.scalar (Value.float .f64) (fun _ => rfl)) 123 wr W.heap.size (fun _ => True) o xs) ∧ Aside0 (All2 (fun x v => decVF64 v = x) xs acc)) (fun _ i _ => b.length - (intOf i).toNat)
  case atStart => exact ⟨0, A, c, l, [], r, [], Nat.zero_le _, rfl, hl5, by simp, ⟨by simp⟩, HO, HH, ⟨by simpa using HT.out⟩, ⟨by simp⟩, ⟨Kd.R_nil _ _ _ _ _⟩, ⟨All2.nil⟩⟩
  case round =>
    clear HH HO HT
    obtain ⟨j, A1, c1, rem, acc, rest, xs, hj, rfl, hr5, ha5, HS, HO, HD, HT, HR, HX, HA⟩ := hrel
    by_cases hlt : j < b.length
    · obtain ⟨bd, eb, g0⟩ := Kd.at_int (HB.out wr HD.out.grown) (j : Int) (by omega) (by omega)
      subst eb
      rw [Int.toNat_natCast] at g0
      have hbj : rd b (j : Int) = b[j] := by simp [rd, List.getD_eq_getElem?_getD, List.getElem?_eq_getElem hlt]
      obtain ⟨w1, w2⟩ := HW.out _ (List.getElem_mem hlt)
      rw [← hbj] at w1 w2
      have hd : b.drop j = rd b (j : Int) :: b.drop (j + 1) := by rw [List.drop_eq_getElem_cons hlt, hbj]
      have ht := HT.out
      rw [hd] at ht
      unfold takes at ht
      generalize rd b (j : Int) = x at g0 w1 w2 ht
      clear hbj hd
      by_cases hfit : x.natAbs ≤ rem.length
      · rw [if_pos hfit] at ht
        obtain ⟨rest', ht1, ht2⟩ := Option.map_eq_some_iff.1 ht
        have HT1 := Aside0.mk ht1
        have HT2 := Aside0.mk ht2
        clear ht ht1 ht2 HT
        by_cases hneg : x < 0
        · obtain ⟨m, rfl⟩ : ∃ m : Nat, x = -(m : Int) := ⟨x.natAbs, by omega⟩
          have hm0 : 0 < m := by omega
          have hmr : m ≤ rem.length := by omega
          have e9 : (-(m : Int)).natAbs = m := by omega
          have HT3 := Aside0.mk (show takes (rem.drop m) (b.drop (j + 1)) = some rest' by have := HT1.out; rwa [e9] at this)
          have HT4 := Aside0.mk (show rest = rest' by have := HT2.out; rw [if_neg (by omega)] at this; simpa using this.symm)
          clear HT1 HT2 e9 hfit w1 w2 hneg
          go_wp2_with (go_at_call 69; (with_reducible refine (disF64 dd g c1 m A1 rem W _ hmr HO.out HD.out).mono ?_); rintro e w3 ⟨rfl, hg3, A3, c3, hd3⟩; have HD3 := Aside0.mk hd3; have HG3 := Aside0.mk hg3; clear hd3 hg3)
          go_roundw
          case rel => exact ⟨j + 1, A3, c3, rem.drop m, acc, rest', xs, by omega, by go_num, by rw [List.length_drop]; omega, ha5, ⟨by have := HS.out; rw [List.length_drop]; omega⟩, ⟨HO.out.drop m⟩, ⟨by rw [List.length_drop]; exact HD3.out⟩, HT3, ⟨by rw [← HT4.out]; exact HR.out⟩, ⟨own_kept HX.out HG3.out HD.out.lt⟩, HA⟩
          case measure => simp [intOf]; omega
        · obtain ⟨m, rfl⟩ : ∃ m : Nat, x = (m : Int) := ⟨x.toNat, by omega⟩
          have hmr : m ≤ rem.length := by omega
          have e9 : (m : Int).natAbs = m := by omega
          have HT3 := Aside0.mk (show takes (rem.drop m) (b.drop (j + 1)) = some rest' by have := HT1.out; rwa [e9] at this)
          have HT4 := Aside0.mk (show rest = rem.take m ++ rest' by
            have h2 := HT2.out
            rw [e9] at h2
            by_cases h0 : 0 < (m : Int)
            · rw [if_pos h0] at h2; exact h2.symm
            · rw [if_neg h0] at h2
              obtain rfl : m = 0 := by omega
              simpa using h2.symm)
          have hmk := print_make_of (P := Try.prog) 125 123 (.float .f64 0) 8 Try.underlying125 infoEF64 rfl (by omega) m (by omega)
          have hx0 : 0 ≤ (m : Int) := by omega
          have HXL := Aside0.mk (show xs.length ≤ 500 by have := HA.out.1; omega)
          have HTL := Aside0.mk (show (rem.take m).length = m by rw [List.length_take]; omega)
          clear HT1 HT2 e9 hfit w1 w2 hneg
          go_wp2_with (first | (go_at_call 68; (with_reducible refine (decF64 dd m g c1 A1 rem W _ hmr HO.out HD.out).mono ?_); rintro e w3 ⟨rfl, hg3, ⟨A3, c3, hd3⟩, ys, hys, hq3, ha3⟩; have HD3 := Aside0.mk hd3; have HG3 := Aside0.mk hg3; have HQ3 := Aside0.mk hq3; have HA3 := Aside0.mk ha3; have HYS := Aside0.mk hys; clear hd3 hg3 hq3 ha3 hys) | ((with_reducible refine gate_builtin (b := .append) (xs := #[.tmp 47, .tmp 50]) rfl ?_); at_builtin; refine appN (Kd.scalar (Value.float .f64) (fun _ => rfl)) (w0 := w3) W.heap.size (fun _ _ _ _ h => h) rfl (.tmp 47) (.tmp 50) 125 123 (.float .f64 0) 8 rfl Try.underlying125 infoEF64 rfl (by decide) (by omega) _ xs ys (some ⟨wr.heap.size, 0, none⟩) m m rfl rfl (own_kept HX.out HG3.out HD.out.lt) (c_blk (0 : Nat) HQ3.out HYS.out (by omega)) (Below.refl _ _) (Nat.le_trans HD.out.grown.size HG3.out.size) (by have := HXL.out; omega) ?_; intro v4 w4 ho4 hb4; have HO4 := Aside0.mk ho4; have HB4 := Aside0.mk hb4; clear ho4 hb4))
          go_roundw
          case rel => exact ⟨j + 1, A3, c3, rem.drop m, acc ++ rem.take m, rest', xs ++ ys, by omega, by go_num, by rw [List.length_drop]; omega, by have := HS.out; have := HTL.out; rw [List.length_append]; omega, ⟨by have := HS.out; have := HTL.out; rw [List.length_append, List.length_drop]; omega⟩, ⟨HO.out.drop m⟩, ⟨by rw [List.length_drop]; exact HD3.out.below HB4.out⟩, HT3, ⟨by rw [HR.out, HT4.out, List.append_assoc]⟩, HO4, ⟨HA.out.append HA3.out⟩⟩
          case measure => simp [intOf]; omega
      · rw [if_neg hfit] at ht
        cases ht
    · obtain rfl : j = b.length := by omega
      have ht := HT.out
      rw [List.drop_length] at ht
      have hr : r = acc := by rw [HR.out]; simp [takes] at ht; subst ht; simp
      have HRR := Aside0.mk hr
      clear ht hr
      go_wp2
      go_ret2
      exact ⟨_, xs, rfl, HD.out.grown, HX.out, by rw [HRR.out]; exact HA.out⟩
/-! ### one value -/
def outF64 (v : V) : V := ⟨false, ((dxF64 v.num : Nat) : Int), ⟨#[]⟩, none, 0, 0⟩
theorem atF64 {w : World} {A : Option Addr} {n : Nat} {xs : List Nat} (h : Kd.C (Kd.scalar (Value.float .f64) (fun _ => rfl)) w A n xs) (j : Nat) (hj : j < n) : ∃ ad, A = some ad ∧ w.cell? (ad.add j) = some (.float .f64 (xs.getD j (0 : Nat))) := by
  obtain ⟨ad, e, hc⟩ := (Kd.reads_of_C (enc := Value.float .f64) (d := (0 : Nat)) (h1 := fun _ => rfl) h).2.2 (by omega)
  exact ⟨ad, e, hc j hj⟩
set_option maxRecDepth 100000 in
theorem valF64 (x : Nat) (v : V) (g : Nat) (W w : World) (hg : W.grownBy w (some g)) (hr : decVF64 v = x) :
    Calls Try.prog 71 #[.float .f64 x] w fun e w' => e = .returned (.agg #[.bool false, .int .u64 (((dxF64 v.num : Nat) : Int)), .string ⟨#[]⟩, .slice none 0 0]) ∧ Below w.heap.size w w' := by
  subst hr
  unfold decVF64
  have hfb := fun (n : Nat) (W : World) => bits64 n W
  go_enter Try.func71, Try.ntmps71
  go_wp2
  exact bodyPost_ret (v := .agg #[.bool false, .int .u64 (((dxF64 v.num : Nat) : Int)), .string ⟨#[]⟩, .slice none 0 0]) (by simp [results, Try.results71, go_sem]) rfl ⟨rfl, by go_grown⟩
/-- Bytes are too few. -/
def CutF64 (wd n : Nat) (bs : List Int) : Prop := bs.length < n * 8
theorem relN_ok {w3 w4 : World} {g k : Nat} {x : Nat} {v : V} (hk : w3.heap[k]? = some (.cells #[.bool false] 4 (0, 0))) (hg : w3.grownBy w4 (some g)) (hne : k ≠ g) (h : (fun x v => decVF64 v = x) x v) : (fun x v => decVF64 v = x) x v := h
set_option maxRecDepth 100000 in
set_option maxHeartbeats 8000000 in
theorem decodedF64_err (n g d : Nat) (bd : Addr) (W w : World) (hn : n ≤ 500) (hg : W.grownBy w (some g)) (hb : w.cell? bd = some (.int .i64 n))
    (hdec : ∀ w1, Below w.heap.size w w1 → ∀ q, Calls Try.prog 68 #[.pointer (some ⟨g, 0, none⟩), .slice (some q) n n] w1 (RedErr w1)) :
    Calls Try.prog 67 #[.slice (some bd) 1 d, .func (.func 68) #[.pointer (some ⟨g, 0, none⟩)] #[], .func (.func 69) #[.pointer (some ⟨g, 0, none⟩)] #[]] w fun e w' => e = .returned (.tuple #[.slice none 0 0, .bool false]) ∧ W.grownBy w' (some g) := by
  have HG := Aside0.mk hg
  have HD := Aside0.mk hdec
  have hmk := print_make_of (P := Try.prog) 125 123 (.float .f64 0) 8 Try.underlying125 infoEF64 rfl (by omega) n (by omega)
  have hx0 : 0 ≤ (n : Int) := by omega
  clear hg hdec
  go_enter Try.func67, Try.ntmps67
  go_wp2
  go_loopw [17] (fun i wr => i = .int .i64 0 ∧ w = wr) (fun _ _ => 0)
  case atStart => exact ⟨rfl, rfl⟩
  case round =>
    obtain ⟨rfl, rfl⟩ := hrel
    go_wp2_with (go_at_call 68; (with_reducible refine (HD.out _ ((Below.refl _ _).alloc (Nat.le_refl _) _) _).mono ?_); rintro e w3 ⟨i, t, p, rfl, hb3⟩; have HB3 := Aside0.mk hb3; clear hb3)
    go_ret2
    exact ⟨rfl, gb_below (gb_below HG.out ((Below.refl _ _).alloc (Nat.le_refl _) _)) HB3.out⟩
/-! ### as values -/
/-- Values in a list's order, as the thin package makes them of what was read. -/
def Vals (r : List V) (base : Nat) (w : World) (e : Ending) (w' : World) : Prop := ∃ v, e = .returned v ∧ Kd.R kV 34 w' base (fun _ => True) v r ∧ Below w.heap.size w w'
set_option maxRecDepth 100000 in
set_option maxHeartbeats 8000000 in
theorem valuedF64 (g n c : Nat) (A : Option Addr) (xs : List Nat) (r : List V) (W w : World) (hg : W.grownBy w (some g)) (hn : n ≤ 1000) (hx : Kd.C (Kd.scalar (Value.float .f64) (fun _ => rfl)) w A n xs) (ha : All2 (fun x v => decVF64 v = x) xs r) :
    Calls Try.prog 70 #[.slice A n c, .func (.func 71) #[] #[]] w (Vals (r.map outF64) w.heap.size w) := by
  have hxl : xs.length = n := hx.1
  have hrl : r.length = n := by rw [← ha.1]; exact hxl
  have HX := Aside0.mk hx
  have HA := Aside0.mk ha
  have HG := Aside0.mk hg
  clear hx ha hg
  go_enter Try.func70, Try.ntmps70
  go_wp2
  go_loopw [5, 10] (fun o i wr => ∃ j : Nat, j ≤ n ∧ i = .int .i64 j ∧ Aside0 (Kd.R kV 34 wr w.heap.size (fun _ => True) o ((r.take j).map outF64)) ∧ Aside0 (Below w.heap.size w wr)) (fun _ i _ => n - (intOf i).toNat)
  case atStart => exact ⟨0, Nat.zero_le _, rfl, ⟨by simpa using Kd.R_nil _ _ _ _ _⟩, ⟨Below.refl _ _⟩⟩
  case round =>
    obtain ⟨j, hj, rfl, HO, HB⟩ := hrel
    by_cases hlt : j < n
    · have hjx : j < xs.length := by omega
      have hjr : j < r.length := by omega
      have hrel := HA.out.2 j xs[j] (gv r j) (List.getElem?_eq_getElem hjx) (by rw [gv_get r j hjr]; exact List.getElem?_eq_getElem hjr)
      obtain ⟨ad, ea, f0⟩ := atF64 (Kd.C_below HX.out HB.out) j hlt
      subst ea
      have e1 : xs.getD j (0 : Nat) = xs[j] := by simp [List.getD_eq_getElem?_getD, List.getElem?_eq_getElem hjx]
      rw [e1] at f0
      have HS := Aside0.mk (show (r.take (j + 1)).map outF64 = (r.take j).map outF64 ++ [outF64 (gv r j)] by rw [take_snoc r j hjr, List.map_append]; rfl)
      have HL := Aside0.mk (show ((r.take j).map outF64).length ≤ n by rw [List.length_map, List.length_take]; omega)
      have HR := Aside0.mk hrel
      generalize gv r j = v at HS HR
      generalize xs[j] = x at f0 HR
      clear e1 hrel
      go_wp2_with (first | (go_at_call 71; (with_reducible refine (valF64 x v g W _ (gb_below HG.out HB.out) HR.out).mono ?_); rintro e w3 ⟨rfl, hb3⟩; have HB3 := Aside0.mk hb3; clear hb3) | ((with_reducible refine gate_builtin (b := .append) (xs := #[.tmp 14, .tmp 18]) rfl ?_); at_builtin; refine app1 kV (w0 := w) w.heap.size rfl (.tmp 14) (.tmp 18) 22 34 (.agg #[.bool false, .int .u64 0, .string ⟨#[]⟩, .slice none 0 0]) 56 rfl Try.underlying22 info34 rfl (by decide) (by omega) _ ((r.take j).map outF64) (outF64 v) (outF64 v).enc rfl rfl rfl (Kd.R_below HO.out HB3.out) (HB.out.trans (HB3.out.mono HB.out.size)) (Nat.le_trans HB.out.size HB3.out.size) (by have := HL.out; omega) ?_; intro v4 w4 ho4 hb4; rw [← HS.out] at ho4; have HO4 := Aside0.mk ho4; have HB4 := Aside0.mk hb4; clear ho4 hb4))
      go_roundw
      case rel => exact ⟨j + 1, by omega, by go_num, HO4, HB4⟩
      case measure => simp [intOf]; omega
    · obtain rfl : j = n := by omega
      go_wp2
      go_ret
      refine ⟨_, rfl, ?_, HB.out⟩
      have := HO.out
      rwa [List.take_of_length_le (by omega)] at this

end Go.Proofs.Ytbghkoalmjfpiaa.Plain
