/- How the reference writes values plainly: a number by its bytes, a text of one length as it is, another one behind its length. -/
import Derived.Test.YtbghkoalmjfpiaaR4A
namespace Go.Proofs.Ytbghkoalmjfpiaa.Plain
open Go.RowKit Go.Proofs.YtbghkoalmjfpiaaW.PrintWords Go.Proofs.YtbghkoalmjfpiaaW.PrintLast Go.Proofs.YtbghkoalmjfpiaaW.PrintMore Go.Proofs.Ytbghkoalmjfpiaa.PBatchedValues
set_option linter.unusedVariables false
set_option linter.unusedSimpArgs false

theorem info5 : (Try.prog.info? 5).map (fun i => (i.zero, i.size, i.bytes)) = some (some (.int .u8 0), 1, 1) := by kernel_rfl
def byteAt (n : Int) (k : Nat) : Int := n / 2 ^ (8 * k) % 256
def le (n : Int) (b : Nat) : List Int := (List.range b).map (byteAt n)
theorem le_succ (n : Int) (b : Nat) : le n (b + 1) = le n b ++ [byteAt n b] := by simp [le, List.range_succ]
theorem le_len (n : Int) (b : Nat) : (le n b).length = b := by simp [le]
/-- A row of bytes is handed back, in a world that kept what was. -/
def RetB (xs : List Int) (w : World) (e : Ending) (w' : World) : Prop :=
  ∃ A n c, e = .returned (.slice A n c) ∧ n = xs.length ∧ n ≤ c ∧ Kd.C (Kd.int .u8) w' A n xs ∧ Below w.heap.size w w'
section
variable {P : Program} {ops : Array Oper} {rest : List Oper} {o : Oper} {a : Act} {Q : Exit → Act → World → Prop} {α : Type}
/-- append(v, x) onto a row of the call's own. -/
theorem app1 (d : Kd α) {w0 W : World} (base : Nat) (hgd : o.guard = none) (s x : Operand) (t e : TypeId) (z : Value) (bytes : Nat)
    (ho : o.op = .call { callee := .builtin .append, args := #[s, x], argTypes := #[t, t] })
    (ht : P.underlying t = some (.slice e)) (hinfo : (P.info? e).map (fun i => (i.zero, i.size, i.bytes)) = some (some z, d.sz, bytes)) (hz : z.cells.size = d.sz) (hs0 : 0 < d.sz) (hb0 : 0 < bytes)
    (v : Value) (xs : List α) (p : α) (cs : List Value) (hs : a.eval s = v) (hx : a.eval x = .slice (some ⟨W.heap.size, 0, none⟩) 1 1) (hp : d.M W base (fun _ => False) p cs)
    (HO : d.R e W base (fun _ => True) v xs) (HB : Below base w0 W) (hbase : base ≤ W.heap.size) (hl : (xs.length + 1) * bytes ≤ 140737488355328)
    (h : ∀ v1 w1, d.R e w1 base (fun _ => True) v1 (xs ++ [p]) → Below base w0 w1 → wpList P ops Q rest (a.put o.dst v1) w1) :
    wpList P ops Q (o :: rest) a (W.alloc (.cells cs.toArray e)) :=
  Kd.R_append d base hgd s x t e z bytes ho ht hinfo hz hs0 hb0 v xs p cs (fun _ => True) (fun _ => False) hs hx hp (fun _ hk => hk.elim) (fun _ _ => trivial) HO HB hbase hl (fun v1 w1 h1 h2 _ _ => h v1 w1 h1 h2)
end
theorem box_num {w w1 wr : World} {o1 : Obj} {T : TypeId} {a b c d : Value} (hb : Below ((w.alloc o1).alloc (.cells #[a, b, c, d] T)).heap.size ((w.alloc o1).alloc (.cells #[a, b, c, d] T)) w1) (hb2 : Below w1.heap.size w1 wr) :
    wr.cell? ⟨w.heap.size + 1, 1, none⟩ = some b := by
  have hz := hb.size
  simp at hz
  rw [hb2.cell (p := ⟨w.heap.size + 1, 1, none⟩) (by simp; omega), hb.cell (p := ⟨w.heap.size + 1, 1, none⟩) (by simp)]
  have := heap_alloc_new (w.alloc o1) (.cells #[a, b, c, d] T)
  rw [World.size_alloc] at this
  rw [cell_of_row _ _ 1 _ T (0, 0) this]
  rfl
set_option maxRecDepth 100000 in
set_option maxHeartbeats 4000000 in
theorem bytes_32 (k : Int) (s s' : Bool) (v : V) (w : World) (h0 : 0 ≤ v.num) (h1 : v.num < 18446744073709551616)
    (hob : ∀ W : World, Calls Try.prog 75 #[tv k 32 s] W fun e w' => e = .returned (.tuple #[.int .i64 32, .bool s']) ∧ Below W.heap.size W w') :
    Calls Try.prog 32 #[tv k 32 s, v.agg] w (RetB (le v.num 4) w) := by
  obtain ⟨nul, num, txt, kA, kn, kc⟩ := v
  dsimp only at h0 h1
  have HOB := Aside0.mk hob
  clear hob
  go_enter Try.func32, Try.ntmps32
  go_wp2_with (first | (go_at_call 75; refine (HOB.out _).mono ?_; rintro e w1 ⟨rfl, hb⟩; have HB0 := Aside0.mk hb; clear hb))
  go_loopw [7, 8] (fun o i wr => ∃ j : Nat, j ≤ 4 ∧ i = .int .i64 j ∧ Aside0 (Kd.R (Kd.int .u8) 5 wr w1.heap.size (fun _ => True) o (le num j)) ∧ Aside0 (Below w1.heap.size w1 wr)) (fun _ i _ => 4 - (intOf i).toNat)
  case atStart => exact ⟨0, Nat.zero_le _, rfl, ⟨Kd.R_nil _ _ _ _ _⟩, ⟨Below.refl _ _⟩⟩
  case round =>
    obtain ⟨j, hj, rfl, HO, HB⟩ := hrel
    have hcn : wr.cell? ⟨w.heap.size + 1, 1, none⟩ = some (.int .u64 num) := box_num (HB0.out) HB.out
    by_cases hlt : j < 4
    · have HL := Aside0.mk (le_len num j)
      have HS := Aside0.mk (le_succ num j)
      go_wp2_with (((with_reducible refine gate_builtin (b := .append) (xs := #[.tmp 23, .tmp 30]) rfl ?_); at_builtin; refine app1 (Kd.int .u8) (w0 := w1) w1.heap.size rfl (.tmp 23) (.tmp 30) 26 5 (.int .u8 0) 1 rfl Try.underlying26 info5 rfl (by decide) (by omega) _ (le num j) (byteAt num j) [.int .u8 (byteAt num j)] rfl rfl rfl HO.out HB.out HB.out.size (by have := HL.out; omega) ?_; intro v1 w2 ho hb; rw [← HS.out] at ho; have HO2 := Aside0.mk ho; have HB2 := Aside0.mk hb; clear ho hb HO HB hcn))
      go_roundw
      case rel => exact ⟨j + 1, by omega, by go_num, HO2, HB2⟩
      case measure => simp [intOf]; omega
    · obtain rfl : j = 4 := by omega
      go_wp2
      go_ret
      obtain ⟨A, c, rfl, hl, hC⟩ := Kd.R_reads HO.out
      exact ⟨A, _, c, rfl, rfl, hl, hC, grow2 HB0.out HB.out⟩
set_option maxRecDepth 100000 in
set_option maxHeartbeats 4000000 in
theorem bytes_64 (k : Int) (s s' : Bool) (v : V) (w : World) (h0 : 0 ≤ v.num) (h1 : v.num < 18446744073709551616)
    (hob : ∀ W : World, Calls Try.prog 75 #[tv k 64 s] W fun e w' => e = .returned (.tuple #[.int .i64 64, .bool s']) ∧ Below W.heap.size W w') :
    Calls Try.prog 32 #[tv k 64 s, v.agg] w (RetB (le v.num 8) w) := by
  obtain ⟨nul, num, txt, kA, kn, kc⟩ := v
  dsimp only at h0 h1
  have HOB := Aside0.mk hob
  clear hob
  go_enter Try.func32, Try.ntmps32
  go_wp2_with (first | (go_at_call 75; refine (HOB.out _).mono ?_; rintro e w1 ⟨rfl, hb⟩; have HB0 := Aside0.mk hb; clear hb))
  go_loopw [7, 8] (fun o i wr => ∃ j : Nat, j ≤ 8 ∧ i = .int .i64 j ∧ Aside0 (Kd.R (Kd.int .u8) 5 wr w1.heap.size (fun _ => True) o (le num j)) ∧ Aside0 (Below w1.heap.size w1 wr)) (fun _ i _ => 8 - (intOf i).toNat)
  case atStart => exact ⟨0, Nat.zero_le _, rfl, ⟨Kd.R_nil _ _ _ _ _⟩, ⟨Below.refl _ _⟩⟩
  case round =>
    obtain ⟨j, hj, rfl, HO, HB⟩ := hrel
    have hcn : wr.cell? ⟨w.heap.size + 1, 1, none⟩ = some (.int .u64 num) := box_num (HB0.out) HB.out
    by_cases hlt : j < 8
    · have HL := Aside0.mk (le_len num j)
      have HS := Aside0.mk (le_succ num j)
      go_wp2_with (((with_reducible refine gate_builtin (b := .append) (xs := #[.tmp 23, .tmp 30]) rfl ?_); at_builtin; refine app1 (Kd.int .u8) (w0 := w1) w1.heap.size rfl (.tmp 23) (.tmp 30) 26 5 (.int .u8 0) 1 rfl Try.underlying26 info5 rfl (by decide) (by omega) _ (le num j) (byteAt num j) [.int .u8 (byteAt num j)] rfl rfl rfl HO.out HB.out HB.out.size (by have := HL.out; omega) ?_; intro v1 w2 ho hb; rw [← HS.out] at ho; have HO2 := Aside0.mk ho; have HB2 := Aside0.mk hb; clear ho hb HO HB hcn))
      go_roundw
      case rel => exact ⟨j + 1, by omega, by go_num, HO2, HB2⟩
      case measure => simp [intOf]; omega
    · obtain rfl : j = 8 := by omega
      go_wp2
      go_ret
      obtain ⟨A, c, rfl, hl, hC⟩ := Kd.R_reads HO.out
      exact ⟨A, _, c, rfl, rfl, hl, hC, grow2 HB0.out HB.out⟩
set_option maxRecDepth 100000 in
set_option maxHeartbeats 4000000 in
theorem bytes_fixed (wd : Int) (s : Bool) (v : V) (w : World) (h0 : 0 ≤ wd) (hs : v.txt.size ≤ 100000) :
    Calls Try.prog 32 #[tv 15 wd s, v.agg] w (RetB (bytesOf v.txt) w) := by
  obtain ⟨nul, num, txt, kA, kn, kc⟩ := v
  dsimp only at hs
  have hcv := fun W : World => Lib.run_convert_string_bytes (P := Try.prog) W 9 26 5 txt Try.underlying9 Try.underlying26 Try.underlying5
  go_enter Try.func32, Try.ntmps32
  go_wp2_with (first | (go_at_call 75; refine (bits_fixed _ _ _).mono ?_; rintro e w1 ⟨rfl, hb⟩; obtain ⟨hc1, hf1⟩ := bcell hb; have hz1 : w.heap.size + 1 < w1.heap.size := by have := hb.size; simp at this; omega) | (go_at_call 76; refine (len_fixed _ _ _).mono ?_; rintro e w2 ⟨rfl, hb2⟩; obtain ⟨hc2, hf2⟩ := bcell hb2; have hz2 : w.heap.size + 1 < w2.heap.size := by have := hb2.size; omega))
  go_ret
  exact ⟨_, _, _, rfl, (bytesOf_length txt).symm, grownCap_ge _ _ _ _, Kd.C_of_reads (d := (0 : Int)) (h1 := fun _ => rfl) (bytes_reads w2 5 txt (by omega)), bytes_below (grow2 hb hb2) (by omega) _ _⟩
set_option maxRecDepth 100000 in
set_option maxHeartbeats 4000000 in
theorem bytes_text (wd : Int) (s : Bool) (v : V) (w : World) (hs : v.txt.size ≤ 100000) :
    Calls Try.prog 32 #[tv 4 wd s, v.agg] w (RetB (le v.txt.size 4 ++ bytesOf v.txt) w) := by
  obtain ⟨nul, num, txt, kA, kn, kc⟩ := v
  dsimp only at hs
  have e4 : le (txt.size : Int) 4 = [(txt.size : Int) % 256, (txt.size : Int) / 256 % 256, (txt.size : Int) / 65536, (txt.size : Int) / 16777216] := by
    simp [le, List.range_succ, byteAt]
    omega
  have HE := Aside0.mk e4
  clear e4
  go_enter Try.func32, Try.ntmps32
  go_wp2_with (first | (go_at_call 75; refine (bits_text _ _ _).mono ?_; rintro e w1 ⟨rfl, hb⟩; obtain ⟨hc1, hf1⟩ := bcell hb; have hz1 : w.heap.size + 1 < w1.heap.size := by have := hb.size; simp at this; omega) | (go_at_call 76; refine (len_text _ _ _).mono ?_; rintro e w2 ⟨rfl, hb2⟩; obtain ⟨hc2, hf2⟩ := bcell hb2; have hz2 : w.heap.size + 1 < w2.heap.size := by have := hb2.size; omega) | (at_builtin; refine print_append_str (w0 := w2) w2.heap.size rfl (.tmp 54) (.tmp 56) 26 9 5 rfl Try.underlying26 Try.underlying9 info5 _ (le txt.size 4) txt rfl rfl ?aO ((Below.refl _ _).alloc (Nat.le_refl _) _) (by simp) (by rw [le_len]; omega) ?_; (case aO => rw [HE.out]; exact own_lit w2 _ 5 .u8 [(txt.size : Int) % 256, (txt.size : Int) / 256 % 256, (txt.size : Int) / 65536, (txt.size : Int) / 16777216] (Nat.le_refl _) (by simp)); intro v1 w3 ho hb3 _))
  go_ret
  obtain ⟨A, c, rfl, hl, hC⟩ := Kd.R_reads (Kd.R_of_own (h1 := fun _ => rfl) (ok := fun _ => True) (enc := Value.int .u8) ho (fun _ _ => trivial))
  exact ⟨A, _, c, rfl, rfl, hl, hC, grow2 hb (hb2.trans (hb3.mono hb2.size))⟩

end Go.Proofs.Ytbghkoalmjfpiaa.Plain
