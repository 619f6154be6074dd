/- Batches of numbers. -/
import Derived.Test.YtbghkoalmjfpiaaR4Y
namespace Go.Proofs.Ytbghkoalmjfpiaa.Plain
open Go.RowKit Go.Proofs.YtbghkoalmjfpiaaW.PrintWords Go.Proofs.YtbghkoalmjfpiaaW.PrintLast Go.Proofs.YtbghkoalmjfpiaaW.PrintMore Go.Proofs.Ytbghkoalmjfpiaa.PBatchedValues
set_option linter.unusedVariables false
set_option linter.unusedSimpArgs false

theorem all_decI96 (l : List V) : All2 (fun x v => decVI96 v = x) (l.map decVI96) l := by
  refine ⟨by rw [List.length_map], fun j x y hx hy => ?_⟩
  rw [List.getElem?_map, hy] at hx
  exact Option.some.inj hx
theorem tw_decI96 (l : List V) (h : ∀ v ∈ l, (bytesOf v.txt).length = 12) : TwA (l.map decVI96) := fun y hy => by
  obtain ⟨v, hv, rfl⟩ := List.mem_map.1 hy
  exact h v hv
/-- Batches are read one behind the other: what they take of the values. -/
def ReadI96 (W : World) (g : Nat) (r : List V) (e : Ending) (w' : World) : Prop :=
  ∃ v xs, e = .returned (.tuple #[v, .bool true]) ∧ W.grownBy w' (some g) ∧ Kd.R kA 103 w' W.heap.size (fun _ => True) v xs ∧ All2 (fun x v => decVI96 v = x) xs r
theorem infoEI96 : (Try.prog.info? 103).map (fun i => (i.zero, i.size, i.bytes)) = some (some (.agg (cellsA zA).toArray), 12, 12) := by kernel_rfl
set_option maxRecDepth 100000 in
set_option maxHeartbeats 8000000 in
theorem decodedI96 (dd : Nat) (g c d : Nat) (A B : Option Addr) (l r : List V) (b : List Int) (W w : World) (ho : OkI96 0 l) (hb : ∀ wr, W.grownBy wr (some g) → Kd.C (Kd.int .i64) wr B b.length b) (h : DB 104 (mkI96 0) W g w l.length (l.flatMap encI96) A c)
    (hw : ∀ x ∈ b, -9223372036854775808 ≤ x ∧ x ≤ 9223372036854775807) (hbat : bat l b = some r) :
    Calls Try.prog 55 #[.slice B b.length d, .func (.func 56) #[.pointer (some ⟨g, 0, none⟩)] #[], .func (.func 57) #[.pointer (some ⟨g, 0, none⟩)] #[]] w (ReadI96 W g r) := by
  have hb50 : b.length ≤ 50 := by
    unfold bat at hbat
    split at hbat
    · cases hbat
    · omega
  have htk : takes l b = some r := by
    unfold bat at hbat
    rwa [if_neg (by omega)] at hbat
  have hl5 : l.length ≤ 500 := ho.2.2.1
  have HH := Aside0.mk h
  have HB := Aside0.mk hb
  have HO := Aside0.mk ho
  have HW := Aside0.mk hw
  have HT := Aside0.mk htk
  clear h hb ho hw htk hbat
  go_enter Try.func55, Try.ntmps55
  go_wp2
  go_loopw [6, 17] (fun o i wr => ∃ (j : Nat) (A : Option Addr) (c : Nat) (rem acc rest : List V) (xs : List (List Int)), j ≤ b.length ∧ i = .int .i64 j ∧ rem.length ≤ 500 ∧ acc.length ≤ 500 ∧ Aside0 (acc.length + rem.length ≤ l.length) ∧ Aside0 (OkI96 0 rem) ∧ Aside0 (DB 104 (mkI96 0) W g wr rem.length (rem.flatMap encI96) A c) ∧ Aside0 (takes rem (b.drop j) = some rest) ∧ Aside0 (r = acc ++ rest) ∧ Aside0 (Kd.R kA 103 wr W.heap.size (fun _ => True) o xs) ∧ Aside0 (All2 (fun x v => decVI96 v = x) xs acc)) (fun _ i _ => b.length - (intOf i).toNat)
  case atStart => exact ⟨0, A, c, l, [], r, [], Nat.zero_le _, rfl, hl5, by simp, ⟨by simp⟩, HO, HH, ⟨by simpa using HT.out⟩, ⟨by simp⟩, ⟨Kd.R_nil _ _ _ _ _⟩, ⟨All2.nil⟩⟩
  case round =>
    clear HH HO HT
    obtain ⟨j, A1, c1, rem, acc, rest, xs, hj, rfl, hr5, ha5, HS, HO, HD, HT, HR, HX, HA⟩ := hrel
    by_cases hlt : j < b.length
    · obtain ⟨bd, eb, g0⟩ := Kd.at_int (HB.out wr HD.out.grown) (j : Int) (by omega) (by omega)
      subst eb
      rw [Int.toNat_natCast] at g0
      have hbj : rd b (j : Int) = b[j] := by simp [rd, List.getD_eq_getElem?_getD, List.getElem?_eq_getElem hlt]
      obtain ⟨w1, w2⟩ := HW.out _ (List.getElem_mem hlt)
      rw [← hbj] at w1 w2
      have hd : b.drop j = rd b (j : Int) :: b.drop (j + 1) := by rw [List.drop_eq_getElem_cons hlt, hbj]
      have ht := HT.out
      rw [hd] at ht
      unfold takes at ht
      generalize rd b (j : Int) = x at g0 w1 w2 ht
      clear hbj hd
      by_cases hfit : x.natAbs ≤ rem.length
      · rw [if_pos hfit] at ht
        obtain ⟨rest', ht1, ht2⟩ := Option.map_eq_some_iff.1 ht
        have HT1 := Aside0.mk ht1
        have HT2 := Aside0.mk ht2
        clear ht ht1 ht2 HT
        by_cases hneg : x < 0
        · obtain ⟨m, rfl⟩ : ∃ m : Nat, x = -(m : Int) := ⟨x.natAbs, by omega⟩
          have hm0 : 0 < m := by omega
          have hmr : m ≤ rem.length := by omega
          have e9 : (-(m : Int)).natAbs = m := by omega
          have HT3 := Aside0.mk (show takes (rem.drop m) (b.drop (j + 1)) = some rest' by have := HT1.out; rwa [e9] at this)
          have HT4 := Aside0.mk (show rest = rest' by have := HT2.out; rw [if_neg (by omega)] at this; simpa using this.symm)
          clear HT1 HT2 e9 hfit w1 w2 hneg
          go_wp2_with (go_at_call 57; (with_reducible refine (disI96 dd g c1 m A1 rem W _ hmr HO.out HD.out).mono ?_); rintro e w3 ⟨rfl, hg3, A3, c3, hd3⟩; have HD3 := Aside0.mk hd3; have HG3 := Aside0.mk hg3; clear hd3 hg3)
          go_roundw
          case rel => exact ⟨j + 1, A3, c3, rem.drop m, acc, rest', xs, by omega, by go_num, by rw [List.length_drop]; omega, ha5, ⟨by have := HS.out; rw [List.length_drop]; omega⟩, ⟨HO.out.drop m⟩, ⟨by rw [List.length_drop]; exact HD3.out⟩, HT3, ⟨by rw [← HT4.out]; exact HR.out⟩, ⟨own_kept HX.out HG3.out HD.out.lt⟩, HA⟩
          case measure => simp [intOf]; omega
        · obtain ⟨m, rfl⟩ : ∃ m : Nat, x = (m : Int) := ⟨x.toNat, by omega⟩
          have hmr : m ≤ rem.length := by omega
          have e9 : (m : Int).natAbs = m := by omega
          have HT3 := Aside0.mk (show takes (rem.drop m) (b.drop (j + 1)) = some rest' by have := HT1.out; rwa [e9] at this)
          have HT4 := Aside0.mk (show rest = rem.take m ++ rest' by
            have h2 := HT2.out
            rw [e9] at h2
            by_cases h0 : 0 < (m : Int)
            · rw [if_pos h0] at h2; exact h2.symm
            · rw [if_neg h0] at h2
              obtain rfl : m = 0 := by omega
              simpa using h2.symm)
          have hmk := makeA m (by omega)
          have hx0 : 0 ≤ (m : Int) := by omega
          have HA3 := Aside0.mk (all_decI96 (rem.take m))
          have HYS := Aside0.mk (show ((rem.take m).map decVI96).length = m by rw [List.length_map, List.length_take]; omega)
          have HTW := Aside0.mk (tw_decI96 (rem.take m) (fun v hv => HO.out.2.2.2 v (List.mem_of_mem_take hv)))
          have HXL := Aside0.mk (show xs.length ≤ 500 by have := HA.out.1; omega)
          have HTL := Aside0.mk (show (rem.take m).length = m by rw [List.length_take]; omega)
          clear HT1 HT2 e9 hfit w1 w2 hneg
          go_wp2_with (first | (go_at_call 56; (with_reducible refine (decI96 dd m g c1 A1 rem W _ hmr HO.out HD.out).mono ?_); rintro e w3 ⟨rfl, hg3, ⟨A3, c3, hd3⟩, hq3⟩; have HD3 := Aside0.mk hd3; have HG3 := Aside0.mk hg3; have HQ3 := Aside0.mk hq3; clear hd3 hg3 hq3) | ((with_reducible refine gate_builtin (b := .append) (xs := #[.tmp 47, .tmp 50]) rfl ?_); at_builtin; refine appN kA (w0 := w3) W.heap.size (fun _ _ _ _ h => h) rfl (.tmp 47) (.tmp 50) 105 103 (.agg (cellsA zA).toArray) 12 rfl Try.underlying105 infoEI96 rfl (by decide) (by omega) _ xs ((rem.take m).map decVI96) (some ⟨wr.heap.size, 0, none⟩) m m rfl rfl (own_kept HX.out HG3.out HD.out.lt) (c_blkA HQ3.out HTW.out HYS.out (by omega)) (Below.refl _ _) (Nat.le_trans HD.out.grown.size HG3.out.size) (by have := HXL.out; omega) ?_; intro v4 w4 ho4 hb4; have HO4 := Aside0.mk ho4; have HB4 := Aside0.mk hb4; clear ho4 hb4))
          go_roundw
          case rel => exact ⟨j + 1, A3, c3, rem.drop m, acc ++ rem.take m, rest', xs ++ (rem.take m).map decVI96, by omega, by go_num, by rw [List.length_drop]; omega, by have := HS.out; have := HTL.out; rw [List.length_append]; omega, ⟨by have := HS.out; have := HTL.out; rw [List.length_append, List.length_drop]; omega⟩, ⟨HO.out.drop m⟩, ⟨by rw [List.length_drop]; exact HD3.out.below HB4.out⟩, HT3, ⟨by rw [HR.out, HT4.out, List.append_assoc]⟩, HO4, ⟨HA.out.append HA3.out⟩⟩
          case measure => simp [intOf]; omega
      · rw [if_neg hfit] at ht
        cases ht
    · obtain rfl : j = b.length := by omega
      have ht := HT.out
      rw [List.drop_length] at ht
      have hr : r = acc := by rw [HR.out]; simp [takes] at ht; subst ht; simp
      have HRR := Aside0.mk hr
      clear ht hr
      go_wp2
      go_ret2
      exact ⟨_, xs, rfl, HD.out.grown, HX.out, by rw [HRR.out]; exact HA.out⟩
/-! ### one value -/
def outI96 (v : V) : V := ⟨false, 0, v.txt, none, 0, 0⟩
theorem str_bytes (s : ByteArray) : strOfNums (bytesOf s) = s := by
  obtain ⟨⟨l⟩⟩ := s
  simp [strOfNums, bytesOf]
  conv => rhs; rw [← List.map_id l]
  exact List.map_congr_left (fun b _ => by simp)
set_option maxRecDepth 100000 in
theorem valI96 (v : V) (w : World) (h : (bytesOf v.txt).length = 12) :
    Calls Try.prog 59 #[.agg (cellsA (bytesOf v.txt)).toArray] w fun e w' => e = .returned (.agg #[.bool false, .int .u64 0, .string v.txt, .slice none 0 0]) ∧ Below w.heap.size w w' := by
  have hcv : ∀ o : Obj, (convert 26 9 (.slice (some ⟨w.heap.size, 0, none⟩) 12 12)).run Try.prog ((w.alloc (.cells (cellsA (bytesOf v.txt)).toArray 103)).alloc o) = .ok (.string v.txt) ((w.alloc (.cells (cellsA (bytesOf v.txt)).toArray 103)).alloc o) := fun o => by
    have hb : ((w.alloc (.cells (cellsA (bytesOf v.txt)).toArray 103)).alloc o).heap[w.heap.size]? = some (.cells ((bytesOf v.txt).map (Value.int .u8)).toArray 103 (0, 0)) := (two_blocks w _ o).1
    have hc : Kd.C (Kd.int .u8) ((w.alloc (.cells (cellsA (bytesOf v.txt)).toArray 103)).alloc o) (some ⟨w.heap.size, 0, none⟩) 12 (bytesOf v.txt) := c_blk (enc := Value.int .u8) (h1 := fun _ => rfl) (0 : Int) hb h (by omega)
    have h1 := Kd.C_string (P := Try.prog) (src := 26) (dst := 9) (c := 12) Try.underlying26 Try.underlying5 Try.underlying9 hc
    rwa [str_bytes] at h1
  generalize harr : (cellsA (bytesOf v.txt)).toArray = arr at hcv ⊢
  have hsz : arr.size = 12 := by rw [← harr, List.size_toArray, cellsA_len, h]
  have HS := Aside0.mk hsz
  clear harr hsz h
  go_enter Try.func59, Try.ntmps59
  go_wp2
  exact bodyPost_ret (v := .agg #[.bool false, .int .u64 0, .string v.txt, .slice none 0 0]) (by simp [results, Try.results59, go_sem]) rfl ⟨rfl, by go_grown⟩
theorem there_new {w : World} {p n : Nat} {T : TypeId} {cur : Array Value} (h : w.heap[p]? = some (.cells cur T (0, 0))) (hn : n = cur.size) : w.there p 0 n := by
  subst hn
  intro j hj
  refine ⟨?_, blk_frozen h _⟩
  rw [blk_cell h]
  simp [hj]
theorem new_set {w : World} {p : Nat} {T : TypeId} {cur : Array Value} {vs : List Value} (h : w.heap[p]? = some (.cells cur T (0, 0))) (hn : vs.length = cur.size) : (w.setCells p 0 vs).heap[p]? = some (.cells vs.toArray T (0, 0)) := by
  have h1 := sets_blk vs 0 cur.toList w (by simpa using h) (by simp [hn])
  rw [h1, Nat.zero_add, List.drop_of_length_le (by simp [hn])]
  simp
/-- Bytes are too few. -/
def CutI96 (wd n : Nat) (bs : List Int) : Prop := bs.length < n * 12
theorem relN_ok {w3 w4 : World} {g k : Nat} {x : (List Int)} {v : V} (hk : w3.heap[k]? = some (.cells #[.bool false] 4 (0, 0))) (hg : w3.grownBy w4 (some g)) (hne : k ≠ g) (h : (fun x v => decVI96 v = x) x v) : (fun x v => decVI96 v = x) x v := h
set_option maxRecDepth 100000 in
set_option maxHeartbeats 8000000 in
theorem decodedI96_err (n g d : Nat) (bd : Addr) (W w : World) (hn : n ≤ 500) (hg : W.grownBy w (some g)) (hb : w.cell? bd = some (.int .i64 n))
    (hdec : ∀ w1, Below w.heap.size w w1 → ∀ q, Calls Try.prog 56 #[.pointer (some ⟨g, 0, none⟩), .slice (some q) n n] w1 (RedErr w1)) :
    Calls Try.prog 55 #[.slice (some bd) 1 d, .func (.func 56) #[.pointer (some ⟨g, 0, none⟩)] #[], .func (.func 57) #[.pointer (some ⟨g, 0, none⟩)] #[]] w fun e w' => e = .returned (.tuple #[.slice none 0 0, .bool false]) ∧ W.grownBy w' (some g) := by
  have HG := Aside0.mk hg
  have HD := Aside0.mk hdec
  have hmk := makeA n (by omega)
  have hx0 : 0 ≤ (n : Int) := by omega
  clear hg hdec
  go_enter Try.func55, Try.ntmps55
  go_wp2
  go_loopw [17] (fun i wr => i = .int .i64 0 ∧ w = wr) (fun _ _ => 0)
  case atStart => exact ⟨rfl, rfl⟩
  case round =>
    obtain ⟨rfl, rfl⟩ := hrel
    go_wp2_with (go_at_call 56; (with_reducible refine (HD.out _ ((Below.refl _ _).alloc (Nat.le_refl _) _) _).mono ?_); rintro e w3 ⟨i, t, p, rfl, hb3⟩; have HB3 := Aside0.mk hb3; clear hb3)
    go_ret2
    exact ⟨rfl, gb_below (gb_below HG.out ((Below.refl _ _).alloc (Nat.le_refl _) _)) HB3.out⟩
/-! ### as values -/
/-- Values in a list's order, as the thin package makes them of what was read. -/
def Vals (r : List V) (base : Nat) (w : World) (e : Ending) (w' : World) : Prop := ∃ v, e = .returned v ∧ Kd.R kV 34 w' base (fun _ => True) v r ∧ Below w.heap.size w w'
set_option maxRecDepth 100000 in
set_option maxHeartbeats 8000000 in
theorem valuedI96 (g n c : Nat) (A : Option Addr) (xs : List (List Int)) (r : List V) (W w : World) (hg : W.grownBy w (some g)) (hn : n ≤ 1000) (hA : 0 < n → ∃ q, A = some ⟨q, 0, none⟩) (h12 : ∀ v ∈ r, (bytesOf v.txt).length = 12) (hx : Kd.C kA w A n xs) (ha : All2 (fun x v => decVI96 v = x) xs r) :
    Calls Try.prog 58 #[.slice A n c, .func (.func 59) #[] #[]] w (Vals (r.map outI96) w.heap.size w) := by
  have hxl : xs.length = n := hx.1
  have hrl : r.length = n := by rw [← ha.1]; exact hxl
  have HX := Aside0.mk hx
  have HA := Aside0.mk ha
  have HG := Aside0.mk hg
  have HAQ := Aside0.mk hA
  have H12 := Aside0.mk h12
  clear hx ha hg hA h12
  go_enter Try.func58, Try.ntmps58
  go_wp2
  go_loopw [5, 10] (fun o i wr => ∃ j : Nat, j ≤ n ∧ i = .int .i64 j ∧ Aside0 (Kd.R kV 34 wr w.heap.size (fun _ => True) o ((r.take j).map outI96)) ∧ Aside0 (Below w.heap.size w wr)) (fun _ i _ => n - (intOf i).toNat)
  case atStart => exact ⟨0, Nat.zero_le _, rfl, ⟨by simpa using Kd.R_nil _ _ _ _ _⟩, ⟨Below.refl _ _⟩⟩
  case round =>
    obtain ⟨j, hj, rfl, HO, HB⟩ := hrel
    by_cases hlt : j < n
    · have hjx : j < xs.length := by omega
      have hjr : j < r.length := by omega
      have hrel := HA.out.2 j xs[j] (gv r j) (List.getElem?_eq_getElem hjx) (by rw [gv_get r j hjr]; exact List.getElem?_eq_getElem hjr)
      obtain ⟨q, hq⟩ := HAQ.out (by omega)
      subst hq
      have hel : xs[j] = decVI96 (gv r j) := hrel.symm
      have h12j : (bytesOf (gv r j).txt).length = 12 := H12.out _ (gv_mem hjr)
      have hrg : wr.rangeAt q (j * 12) (cellsA (bytesOf (gv r j).txt)) := by
        have h1 := range_of (Kd.C_below HX.out HB.out) j hjx
        rwa [hel] at h1
      have HRG := Aside0.mk hrg
      have HJ12 := Aside0.mk h12j
      have HS := Aside0.mk (show (r.take (j + 1)).map outI96 = (r.take j).map outI96 ++ [outI96 (gv r j)] by rw [take_snoc r j hjr, List.map_append]; rfl)
      have HL := Aside0.mk (show ((r.take j).map outI96).length ≤ n by rw [List.length_map, List.length_take]; omega)
      generalize gv r j = v at HS HRG HJ12
      clear hrel hel h12j hrg
      have hcl12 : (cellsA (bytesOf v.txt)).length = 12 := by rw [cellsA_len, HJ12.out]
      have hnew := heap_alloc_new wr (.cells #[.int .u8 0, .int .u8 0, .int .u8 0, .int .u8 0, .int .u8 0, .int .u8 0, .int .u8 0, .int .u8 0, .int .u8 0, .int .u8 0, .int .u8 0, .int .u8 0] 103)
      have hst := store_there (P := Try.prog) (vs := cellsA (bytesOf v.txt)) (there_new hnew hcl12) (cellsA_one _)
      have HW5 := Aside0.mk (new_set hnew hcl12)
      have HB6 := Aside0.mk (sets_below (Nat.le_refl _) (cellsA (bytesOf v.txt)) 0 _ _ ((Below.refl wr.heap.size wr).alloc (Nat.le_refl _) (.cells #[.int .u8 0, .int .u8 0, .int .u8 0, .int .u8 0, .int .u8 0, .int .u8 0, .int .u8 0, .int .u8 0, .int .u8 0, .int .u8 0, .int .u8 0, .int .u8 0] 103)))
      have HB5 := Aside0.mk (HB.out.trans (HB6.out.mono HB.out.size))
      clear hnew
      go_wp2_with (first | (have hg := HRG.out; clear hg; (with_reducible show wpList _ _ _ _ _ _); refine wpList_load_mid rfl 103 (.tmp 12) rfl q (j * 12) rfl (cellsA (bytesOf v.txt)) _ HRG.out Try.underlying103 rfl (by rw [cellsA_len, HJ12.out]; exact infoA) ?_; clear HRG) | (have hg := HW5.out; clear hg; (with_reducible show wpList _ _ _ _ _ _); refine wpList_load_row rfl 103 (.tmp 7) rfl wr.heap.size rfl 103 (cellsA (bytesOf v.txt)).toArray (0, 0) _ HW5.out Try.underlying103 rfl (by rw [List.size_toArray, cellsA_len, HJ12.out]; exact infoA) ?_; clear HW5) | (go_at_call 59; (with_reducible refine (valI96 v _ HJ12.out).mono ?_); rintro e w3 ⟨rfl, hb3⟩; have HB3 := Aside0.mk (HB5.out.trans (hb3.mono HB5.out.size)); have HB7 := Aside0.mk (HB6.out.trans (hb3.mono HB6.out.size)); clear hb3) | ((with_reducible refine gate_builtin (b := .append) (xs := #[.tmp 14, .tmp 18]) rfl ?_); at_builtin; refine app1 kV (w0 := w) w.heap.size rfl (.tmp 14) (.tmp 18) 22 34 (.agg #[.bool false, .int .u64 0, .string ⟨#[]⟩, .slice none 0 0]) 56 rfl Try.underlying22 info34 rfl (by decide) (by omega) _ ((r.take j).map outI96) (outI96 v) (outI96 v).enc rfl rfl rfl (Kd.R_below HO.out HB7.out) HB3.out HB3.out.size (by have := HL.out; omega) ?_; intro v4 w4 ho4 hb4; rw [← HS.out] at ho4; have HO4 := Aside0.mk ho4; have HB4 := Aside0.mk hb4; clear ho4 hb4))
      go_roundw
      case rel => exact ⟨j + 1, by omega, by go_num, HO4, HB4⟩
      case measure => simp [intOf]; omega
    · obtain rfl : j = n := by omega
      go_wp2
      go_ret
      refine ⟨_, rfl, ?_, HB.out⟩
      have := HO.out
      rwa [List.take_of_length_le (by omega)] at this

end Go.Proofs.Ytbghkoalmjfpiaa.Plain
