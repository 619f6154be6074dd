/- The reference over lists of values: all of a type, all written plainly. -/
import Derived.Test.YtbghkoalmjfpiaaR4B
namespace Go.Proofs.Ytbghkoalmjfpiaa.Plain
open Go.RowKit Go.Proofs.YtbghkoalmjfpiaaW.PrintWords Go.Proofs.YtbghkoalmjfpiaaW.PrintLast Go.Proofs.YtbghkoalmjfpiaaW.PrintMore Go.Proofs.Ytbghkoalmjfpiaa.PBatchedValues
set_option linter.unusedVariables false
set_option linter.unusedSimpArgs false

/-- The k-th value of a list. -/
def gv (l : List V) (k : Nat) : V := l.getD k z0
theorem gv_get (l : List V) (k : Nat) (h : k < l.length) : gv l k = l[k] := by
  simp [gv, List.getD_eq_getElem?_getD, List.getElem?_eq_getElem h]
theorem gv_mem {l : List V} {k : Nat} (h : k < l.length) : gv l k ∈ l := by rw [gv_get l k h]; exact List.getElem_mem h
theorem at_V {w : World} {A : Option Addr} {n : Nat} {xs : List V} (h : Kd.C kV w A n xs) (k : Nat) (h1 : k < n) :
    ∃ ad, A = some ad ∧ w.cell? (ad.add (k * 4)) = some (.bool (gv xs k).nul) ∧ w.cell? ⟨(ad.add (k * 4)).block, (ad.add (k * 4)).off + 1, none⟩ = some (.int .u64 (gv xs k).num) ∧
      w.cell? ⟨(ad.add (k * 4)).block, (ad.add (k * 4)).off + 2, none⟩ = some (.string (gv xs k).txt) ∧ w.cell? ⟨(ad.add (k * 4)).block, (ad.add (k * 4)).off + 3, none⟩ = some (.slice (gv xs k).kA (gv xs k).kn (gv xs k).kc) := by
  obtain ⟨ad, c, e, _, hK, hc0⟩ := Kd.C_get h z0 (k : Int) (by omega) (by omega)
  have hc : ∀ j u, c[j]? = some u → w.cell? (ad.add (k * 4 + j)) = some u := hc0
  have hK : c = (gv xs k).enc := hK
  subst hK
  exact ⟨ad, e, hc 0 _ rfl, by rw [← add_field _ _ 1 (by omega)]; exact hc 1 _ rfl, by rw [← add_field _ _ 2 (by omega)]; exact hc 2 _ rfl, by rw [← add_field _ _ 3 (by omega)]; exact hc 3 _ rfl⟩
/-- What a function says of a value, whatever the world. -/
def Fits (k wd : Int) (s : Bool) (fits : V → Bool) (l : List V) : Prop :=
  ∀ v ∈ l, v.nul = false → ∀ W : World, Calls Try.prog 33 #[tv k wd s, v.agg] W fun e w' => e = .returned (.bool (fits v)) ∧ Below W.heap.size W w'
def good (fits : V → Bool) (v : V) : Bool := !v.nul && fits v
theorem all_step (p : V → Bool) (l : List V) (k : Nat) (h : k < l.length) : (l.take (k + 1)).all p = ((l.take k).all p && p (gv l k)) := by
  rw [List.take_succ_eq_append_getElem h, List.all_append, gv_get l k h]
  simp
theorem all_no (p : V → Bool) (l : List V) (k : Nat) (h : k < l.length) (hn : p (gv l k) = false) : l.all p = false := by
  rw [List.all_eq_false]
  exact ⟨l[k], List.getElem_mem h, by rw [← gv_get l k h, hn]; simp⟩
set_option maxRecDepth 100000 in
set_option maxHeartbeats 4000000 in
theorem plainAll_any (k wd : Int) (s : Bool) (fits : V → Bool) (A : Option Addr) (c : Nat) (l : List V) (w : World) (hf : Fits k wd s fits l) (hl : Kd.C kV w A l.length l) (hn : l.length ≤ 2147483647) :
    Calls Try.prog 14 #[tv k wd s, .slice A l.length c] w fun e w' => e = .returned (.bool (l.all (good fits) && decide (l.length ≤ 500))) ∧ Below w.heap.size w w' := by
  have HF := Aside0.mk hf
  have HL := Aside0.mk hl
  clear hf hl
  go_enter Try.func14, Try.ntmps14
  go_wp2
  go_loopw [9] (fun i wr => ∃ j : Nat, j ≤ l.length ∧ i = .int .i64 j ∧ Aside0 ((l.take j).all (good fits) = true) ∧ Aside0 (Below (w.heap.size + 1) (w.alloc (.cells #[.int .i64 k, .int .i64 wd, .bool s, .int .i64 0, .int .i64 0, .int .i64 0, .string ⟨#[]⟩, .bool false, .slice none 0 0, .slice none 0 0] 30)) wr)) (fun i _ => l.length - (intOf i).toNat)
  case atStart => exact ⟨0, Nat.zero_le _, rfl, ⟨by simp⟩, ⟨Below.refl _ _⟩⟩
  case round =>
    obtain ⟨j, hj, rfl, HA, HB⟩ := hrel
    by_cases hlt : j < l.length
    · obtain ⟨ad, ea, f0, f1, f2, f3⟩ := at_V (Kd.C_below HL.out (((Below.refl _ _).alloc (Nat.le_refl _) _).trans (HB.out.mono (by omega)))) j hlt
      subst ea
      obtain ⟨hcB, _⟩ := bcell (show Below (w.alloc _).heap.size (w.alloc _) wr by rw [World.size_alloc]; exact HB.out)
      have hzB : w.heap.size < wr.heap.size := by have := HB.out.size; rw [World.size_alloc] at this; omega
      have HZ := Aside0.mk (show w.heap.size + 1 ≤ wr.heap.size by omega)
      have HS := Aside0.mk (all_step (good fits) l j hlt)
      have HN := Aside0.mk (all_no (good fits) l j hlt)
      have HM := Aside0.mk (gv_mem hlt)
      rcases hv : gv l j with ⟨nul, num, txt, kA, kn, kc⟩
      rw [hv] at f0 f1 f2 f3 HS HN HM
      dsimp only at f0 f1 f2 f3
      clear hv
      cases nul with
      | true =>
        go_wp2
        go_ret
        refine ⟨ret_bool ?_, ?_⟩
        · rw [HN.out rfl]; rfl
        · exact (((Below.refl _ _).alloc (Nat.le_refl _) _).trans (HB.out.mono (by omega))).alloc (by have := HB.out.size; simp at this; omega) _
      | false =>
        have HC := Aside0.mk (fun W : World => show Calls Try.prog 33 #[tv k wd s, .agg #[.bool false, .int .u64 num, .string txt, .slice kA kn kc]] W _ from HF.out _ HM.out rfl W)
        go_wp2_with (go_at_call 33; (with_reducible refine (HC.out _).mono ?_); rintro e w3 ⟨rfl, hb3⟩)
        · go_ret
          refine ⟨ret_bool ?_, ?_⟩
          · rw [HN.out (by simp [good]; simpa using ‹(!fits _) = true›)]; rfl
          · exact ((((Below.refl _ _).alloc (Nat.le_refl _) _).trans (HB.out.mono (by omega))).alloc (by have := HZ.out; omega) _).trans (hb3.mono (by rw [World.size_alloc]; have := HZ.out; omega))
        · go_roundw
          case rel => exact ⟨j + 1, by omega, by go_num, ⟨by rw [HS.out, HA.out]; simp [good]; simpa using ‹(!fits _) = false›⟩, ⟨(HB.out.alloc HZ.out _).trans (hb3.mono (by rw [World.size_alloc]; have := HZ.out; omega))⟩⟩
          case measure => simp [intOf]; omega
    · obtain rfl : j = l.length := by omega
      go_wp2
      go_ret
      refine ⟨ret_bool ?_, ((Below.refl _ _).alloc (Nat.le_refl _) _).trans (HB.out.mono (by omega))⟩
      have := HA.out
      rw [List.take_length] at this
      rw [this, Bool.true_and, Bool.eq_iff_iff]
      simp
      try omega
section
variable {P : Program} {ops : Array Oper} {rest : List Oper} {o : Oper} {a : Act} {Q : Exit → Act → World → Prop} {α : Type}
/-- append(v, ys...) onto a row of the call's own, of things that lead nowhere. -/
theorem appN (d : Kd α) {w0 W : World} (base : Nat) (hKM : ∀ W' b x cs, d.K W' x cs → d.M W' b (fun _ => False) x cs) (hgd : o.guard = none) (s x : Operand) (t e : TypeId) (z : Value) (bytes : Nat)
    (ho : o.op = .call { callee := .builtin .append, args := #[s, x], argTypes := #[t, t] })
    (ht : P.underlying t = some (.slice e)) (hinfo : (P.info? e).map (fun i => (i.zero, i.size, i.bytes)) = some (some z, d.sz, bytes)) (hz : z.cells.size = d.sz) (hs0 : 0 < d.sz) (hb0 : 0 < bytes)
    (v : Value) (xs ys : List α) (A : Option Addr) (m c : Nat) (hs : a.eval s = v) (hx : a.eval x = .slice A m c)
    (HO : d.R e W base (fun _ => True) v xs) (HR : Kd.C d W A m ys) (HB : Below base w0 W) (hbase : base ≤ W.heap.size) (hl : (xs.length + m) * bytes ≤ 140737488355328)
    (h : ∀ v1 w1, d.R e w1 base (fun _ => True) v1 (xs ++ ys) → Below base w0 w1 → wpList P ops Q rest (a.put o.dst v1) w1) :
    wpList P ops Q (o :: rest) a W :=
  Kd.R_append_rows d base hgd s x t e z bytes ho ht hinfo hz hs0 hb0 v xs ys A m c (fun _ => True) (fun _ => False) hs hx HO HR (fun x cs hh => hKM _ _ x cs hh) (fun _ hk => hk.elim) (fun _ _ => trivial) HB hbase hl (fun v1 w1 h1 h2 _ _ => h v1 w1 h1 h2)
end
/-- What a function writes of a value, whatever the world. -/
def Wrote (k wd : Int) (s : Bool) (enc : V → List Int) (l : List V) : Prop :=
  ∀ v ∈ l, (enc v).length ≤ 1000 ∧ ∀ W : World, Calls Try.prog 32 #[tv k wd s, v.agg] W (RetB (enc v) W)
theorem flat_len (enc : V → List Int) : ∀ l : List V, (∀ v ∈ l, (enc v).length ≤ 1000) → (l.flatMap enc).length ≤ l.length * 1000
  | [], _ => by simp
  | v :: l, h => by
    have h1 := h v (by simp)
    have h2 := flat_len enc l (fun u hu => h u (by simp [hu]))
    simp only [List.flatMap_cons, List.length_append, List.length_cons]
    omega
theorem flat_step (enc : V → List Int) (l : List V) (k : Nat) (h : k < l.length) : (l.take (k + 1)).flatMap enc = (l.take k).flatMap enc ++ enc (gv l k) := by
  rw [List.take_succ_eq_append_getElem h, List.flatMap_append, gv_get l k h]
  simp
theorem flat_take (enc : V → List Int) (l : List V) (k : Nat) (h : ∀ v ∈ l, (enc v).length ≤ 1000) (hn : l.length ≤ 1000) : ((l.take k).flatMap enc).length ≤ 1000000 := by
  have h1 := flat_len enc (l.take k) (fun v hv => h v (List.mem_of_mem_take hv))
  have h2 : (l.take k).length ≤ l.length := List.length_take_le' _ _
  omega
set_option maxRecDepth 100000 in
set_option maxHeartbeats 4000000 in
theorem plainly_any (k wd : Int) (s : Bool) (enc : V → List Int) (A : Option Addr) (c : Nat) (l : List V) (w : World) (hf : Wrote k wd s enc l) (hl : Kd.C kV w A l.length l) (hn : l.length ≤ 1000) :
    Calls Try.prog 11 #[tv k wd s, .slice A l.length c] w (RetB (l.flatMap enc) w) := by
  have HF := Aside0.mk hf
  have HL := Aside0.mk hl
  have HT := Aside0.mk (fun j => flat_take enc l j (fun v hv => (hf v hv).1) hn)
  clear hf hl
  go_enter Try.func11, Try.ntmps11
  go_wp2
  go_loopw [5, 10] (fun o i wr => ∃ j : Nat, j ≤ l.length ∧ i = .int .i64 j ∧ Aside0 (Kd.R (Kd.int .u8) 5 wr (w.heap.size + 1) (fun _ => True) o ((l.take j).flatMap enc)) ∧ Aside0 (Below (w.heap.size + 1) (w.alloc (.cells #[.int .i64 k, .int .i64 wd, .bool s, .int .i64 0, .int .i64 0, .int .i64 0, .string ⟨#[]⟩, .bool false, .slice none 0 0, .slice none 0 0] 30)) wr)) (fun _ i _ => l.length - (intOf i).toNat)
  case atStart => exact ⟨0, Nat.zero_le _, rfl, ⟨by simpa using Kd.R_nil _ _ _ _ _⟩, ⟨Below.refl _ _⟩⟩
  case round =>
    obtain ⟨j, hj, rfl, HO, HB⟩ := hrel
    by_cases hlt : j < l.length
    · obtain ⟨ad, ea, f0, f1, f2, f3⟩ := at_V (Kd.C_below HL.out (((Below.refl _ _).alloc (Nat.le_refl _) _).trans (HB.out.mono (by omega)))) j hlt
      subst ea
      obtain ⟨hcB, _⟩ := bcell (show Below (w.alloc _).heap.size (w.alloc _) wr by rw [World.size_alloc]; exact HB.out)
      have hzB : w.heap.size < wr.heap.size := by have := HB.out.size; rw [World.size_alloc] at this; omega
      have HZ := Aside0.mk (show w.heap.size + 1 ≤ wr.heap.size by omega)
      have HS := Aside0.mk (flat_step enc l j hlt)
      have HM := Aside0.mk (HF.out _ (gv_mem hlt))
      rcases hv : gv l j with ⟨nul, num, txt, kA, kn, kc⟩
      rw [hv] at f0 f1 f2 f3 HS HM
      dsimp only at f0 f1 f2 f3
      clear hv
      have HC := Aside0.mk (fun W : World => show Calls Try.prog 32 #[tv k wd s, .agg #[.bool nul, .int .u64 num, .string txt, .slice kA kn kc]] W _ from HM.out.2 W)
      have HM1 := Aside0.mk HM.out.1
      clear HM
      go_wp2_with (first | (go_at_call 32; (with_reducible refine (HC.out _).mono ?_); rintro e w3 ⟨A3, n3, c3, rfl, hn3, hc3, hC3, hb3⟩; have HN3 := Aside0.mk hn3; have HC3 := Aside0.mk hC3; have HB3 := Aside0.mk hb3; clear hn3 hC3 hb3) | ((with_reducible refine gate_builtin (b := .append) (xs := #[.tmp 14, .tmp 17]) rfl ?_); at_builtin; refine appN (Kd.int .u8) (w0 := w.alloc (.cells #[.int .i64 k, .int .i64 wd, .bool s, .int .i64 0, .int .i64 0, .int .i64 0, .string ⟨#[]⟩, .bool false, .slice none 0 0, .slice none 0 0] 30)) (w.heap.size + 1) (fun _ _ _ _ h => h) rfl (.tmp 14) (.tmp 17) 26 5 (.int .u8 0) 1 rfl Try.underlying26 info5 rfl (by decide) (by omega) _ ((l.take j).flatMap enc) (enc ⟨nul, num, txt, kA, kn, kc⟩) A3 n3 c3 rfl rfl (Kd.R_below (Kd.R_alloc HO.out _) HB3.out) HC3.out ((HB.out.alloc HZ.out _).trans (HB3.out.mono (by rw [World.size_alloc]; have := HZ.out; omega))) (by have := HB3.out.size; rw [World.size_alloc] at this; have := HZ.out; omega) (by have h5 := HT.out j; have h6 := HN3.out; have h7 := HM1.out; omega) ?_; intro v1 w4 ho hb4; rw [← HS.out] at ho; have HO4 := Aside0.mk ho; have HB4 := Aside0.mk hb4; clear ho hb4))
      go_roundw
      case rel => exact ⟨j + 1, by omega, by go_num, HO4, HB4⟩
      case measure => simp [intOf]; omega
    · obtain rfl : j = l.length := by omega
      go_wp2
      go_ret
      obtain ⟨A1, c1, rfl, hl1, hC⟩ := Kd.R_reads HO.out
      rw [List.take_length] at hl1 hC
      exact ⟨A1, (l.flatMap enc).length, c1, by first | rfl | (simp [List.take_length]; done) | (rw [List.take_length]; rfl), rfl, hl1, hC, ((Below.refl _ _).alloc (Nat.le_refl _) _).trans (HB.out.mono (by omega))⟩

end Go.Proofs.Ytbghkoalmjfpiaa.Plain
