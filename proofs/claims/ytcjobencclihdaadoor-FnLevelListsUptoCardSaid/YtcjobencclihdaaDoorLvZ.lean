/- How many bytes a type takes. -/
import Derived.Test.YtcjobencclihdaaDoorLvD
namespace Go.Proofs.YtcjobencclihdaaDoor.Lv
open Go.RowKit Go.Proofs.YtcjobencclihdaaDoorW.PrintWords Go.Proofs.YtcjobencclihdaaDoorW.PrintLast Go.Proofs.YtcjobencclihdaaDoorW.PrintMore
set_option linter.unusedVariables false
set_option linter.unusedSimpArgs false


/-- A type that is no interface. -/
def plainB (P : Program) (a : TypeId) : Bool := match P.underlying a with | some (.interface _) => false | some _ => true | none => false
theorem ta_yes {P : Program} {t xT : TypeId} (v : Value) (h : plainB P t = true) (w : World) : (Instr.typeAssert (.iface t v) xT t true).run P w = .ok (.tuple #[v, .bool true]) w := by
  unfold plainB at h
  cases hu : P.underlying t with
  | none => rw [hu] at h; cases h
  | some d =>
    rw [hu] at h
    cases d <;> simp at h <;> simp [Instr.typeAssert, run_underlying hu, go_sem, Result.andThen]
theorem ta_no {P : Program} {t a xT : TypeId} (v z : Value) (h : plainB P a = true) (hz : (P.info? a).map (·.zero) = some (some z)) (hne : t ≠ a) (w : World) : (Instr.typeAssert (.iface t v) xT a true).run P w = .ok (.tuple #[z, .bool false]) w := by
  unfold plainB at h
  obtain ⟨i, hi, hiz⟩ := Option.map_eq_some_iff.1 hz
  cases hu : P.underlying a with
  | none => rw [hu] at h; cases h
  | some d =>
    rw [hu] at h
    cases d <;> simp at h <;> simp [Instr.typeAssert, run_underlying hu, go_sem, Result.andThen, hne, zeroValue, typeInfo, hi, hiz]
set_option maxRecDepth 100000 in
theorem size0_i64 (w : World) : Calls Tryd.prog 28 #[] w fun e w' => e = .returned (.int .i64 8) ∧ Below w.heap.size w w' := by
  have ta87 := fun (v : Value) (W : World) => ta_yes (P := Tryd.prog) (t := 87) (xT := 20) v (by kernel_rfl) W
  have ta88 := fun (v : Value) (W : World) => ta_no (P := Tryd.prog) (t := 87) (a := 88) (xT := 20) v (.pointer none) (by kernel_rfl) (by kernel_rfl) (by decide) W
  have ta89 := fun (v : Value) (W : World) => ta_no (P := Tryd.prog) (t := 87) (a := 89) (xT := 20) v (.pointer none) (by kernel_rfl) (by kernel_rfl) (by decide) W
  have ta90 := fun (v : Value) (W : World) => ta_no (P := Tryd.prog) (t := 87) (a := 90) (xT := 20) v (.pointer none) (by kernel_rfl) (by kernel_rfl) (by decide) W
  have ta91 := fun (v : Value) (W : World) => ta_no (P := Tryd.prog) (t := 87) (a := 91) (xT := 20) v (.pointer none) (by kernel_rfl) (by kernel_rfl) (by decide) W
  have ta92 := fun (v : Value) (W : World) => ta_no (P := Tryd.prog) (t := 87) (a := 92) (xT := 20) v (.pointer none) (by kernel_rfl) (by kernel_rfl) (by decide) W
  have ta93 := fun (v : Value) (W : World) => ta_no (P := Tryd.prog) (t := 87) (a := 93) (xT := 20) v (.pointer none) (by kernel_rfl) (by kernel_rfl) (by decide) W
  have ta94 := fun (v : Value) (W : World) => ta_no (P := Tryd.prog) (t := 87) (a := 94) (xT := 20) v (.pointer none) (by kernel_rfl) (by kernel_rfl) (by decide) W
  have ta95 := fun (v : Value) (W : World) => ta_no (P := Tryd.prog) (t := 87) (a := 95) (xT := 20) v (.pointer none) (by kernel_rfl) (by kernel_rfl) (by decide) W
  have ta96 := fun (v : Value) (W : World) => ta_no (P := Tryd.prog) (t := 87) (a := 96) (xT := 20) v (.pointer none) (by kernel_rfl) (by kernel_rfl) (by decide) W
  have ta97 := fun (v : Value) (W : World) => ta_no (P := Tryd.prog) (t := 87) (a := 97) (xT := 20) v (.pointer none) (by kernel_rfl) (by kernel_rfl) (by decide) W
  have ta98 := fun (v : Value) (W : World) => ta_no (P := Tryd.prog) (t := 87) (a := 98) (xT := 20) v (.pointer none) (by kernel_rfl) (by kernel_rfl) (by decide) W
  have ta99 := fun (v : Value) (W : World) => ta_no (P := Tryd.prog) (t := 87) (a := 99) (xT := 20) v (.pointer none) (by kernel_rfl) (by kernel_rfl) (by decide) W
  have ta100 := fun (v : Value) (W : World) => ta_no (P := Tryd.prog) (t := 87) (a := 100) (xT := 20) v (.pointer none) (by kernel_rfl) (by kernel_rfl) (by decide) W
  have ta101 := fun (v : Value) (W : World) => ta_no (P := Tryd.prog) (t := 87) (a := 101) (xT := 20) v (.pointer none) (by kernel_rfl) (by kernel_rfl) (by decide) W
  have ta102 := fun (v : Value) (W : World) => ta_no (P := Tryd.prog) (t := 87) (a := 102) (xT := 20) v (.pointer none) (by kernel_rfl) (by kernel_rfl) (by decide) W
  have ta103 := fun (v : Value) (W : World) => ta_no (P := Tryd.prog) (t := 87) (a := 103) (xT := 20) v (.pointer none) (by kernel_rfl) (by kernel_rfl) (by decide) W
  have ta104 := fun (v : Value) (W : World) => ta_no (P := Tryd.prog) (t := 87) (a := 104) (xT := 20) v (.pointer none) (by kernel_rfl) (by kernel_rfl) (by decide) W
  have ta105 := fun (v : Value) (W : World) => ta_no (P := Tryd.prog) (t := 87) (a := 105) (xT := 20) v (.pointer none) (by kernel_rfl) (by kernel_rfl) (by decide) W
  have ta106 := fun (v : Value) (W : World) => ta_no (P := Tryd.prog) (t := 87) (a := 106) (xT := 20) v (.pointer none) (by kernel_rfl) (by kernel_rfl) (by decide) W
  have ta107 := fun (v : Value) (W : World) => ta_no (P := Tryd.prog) (t := 87) (a := 107) (xT := 20) v (.pointer none) (by kernel_rfl) (by kernel_rfl) (by decide) W
  have ta108 := fun (v : Value) (W : World) => ta_no (P := Tryd.prog) (t := 87) (a := 108) (xT := 20) v (.pointer none) (by kernel_rfl) (by kernel_rfl) (by decide) W
  go_enter Tryd.func28, Tryd.ntmps28
  go_wp2
  go_ret
  exact ⟨rfl, by go_grown⟩
set_option maxRecDepth 100000 in
theorem size_i64 (w : World) : Calls Tryd.prog 23 #[] w fun e w' => e = .returned (.int .i64 8) ∧ Below w.heap.size w w' := by
  go_enter Tryd.func23, Tryd.ntmps23
  go_wp2_with (go_at_call 28; (with_reducible refine (size0_i64 _).mono ?_); rintro e w1 ⟨rfl, hb⟩)
  go_ret
  exact ⟨rfl, hb⟩
set_option maxRecDepth 100000 in
theorem size0_i32 (w : World) : Calls Tryd.prog 29 #[] w fun e w' => e = .returned (.int .i64 4) ∧ Below w.heap.size w w' := by
  have ta87 := fun (v : Value) (W : World) => ta_no (P := Tryd.prog) (t := 93) (a := 87) (xT := 20) v (.pointer none) (by kernel_rfl) (by kernel_rfl) (by decide) W
  have ta88 := fun (v : Value) (W : World) => ta_no (P := Tryd.prog) (t := 93) (a := 88) (xT := 20) v (.pointer none) (by kernel_rfl) (by kernel_rfl) (by decide) W
  have ta89 := fun (v : Value) (W : World) => ta_no (P := Tryd.prog) (t := 93) (a := 89) (xT := 20) v (.pointer none) (by kernel_rfl) (by kernel_rfl) (by decide) W
  have ta90 := fun (v : Value) (W : World) => ta_no (P := Tryd.prog) (t := 93) (a := 90) (xT := 20) v (.pointer none) (by kernel_rfl) (by kernel_rfl) (by decide) W
  have ta91 := fun (v : Value) (W : World) => ta_no (P := Tryd.prog) (t := 93) (a := 91) (xT := 20) v (.pointer none) (by kernel_rfl) (by kernel_rfl) (by decide) W
  have ta92 := fun (v : Value) (W : World) => ta_no (P := Tryd.prog) (t := 93) (a := 92) (xT := 20) v (.pointer none) (by kernel_rfl) (by kernel_rfl) (by decide) W
  have ta93 := fun (v : Value) (W : World) => ta_yes (P := Tryd.prog) (t := 93) (xT := 20) v (by kernel_rfl) W
  have ta94 := fun (v : Value) (W : World) => ta_no (P := Tryd.prog) (t := 93) (a := 94) (xT := 20) v (.pointer none) (by kernel_rfl) (by kernel_rfl) (by decide) W
  have ta95 := fun (v : Value) (W : World) => ta_no (P := Tryd.prog) (t := 93) (a := 95) (xT := 20) v (.pointer none) (by kernel_rfl) (by kernel_rfl) (by decide) W
  have ta96 := fun (v : Value) (W : World) => ta_no (P := Tryd.prog) (t := 93) (a := 96) (xT := 20) v (.pointer none) (by kernel_rfl) (by kernel_rfl) (by decide) W
  have ta97 := fun (v : Value) (W : World) => ta_no (P := Tryd.prog) (t := 93) (a := 97) (xT := 20) v (.pointer none) (by kernel_rfl) (by kernel_rfl) (by decide) W
  have ta98 := fun (v : Value) (W : World) => ta_no (P := Tryd.prog) (t := 93) (a := 98) (xT := 20) v (.pointer none) (by kernel_rfl) (by kernel_rfl) (by decide) W
  have ta99 := fun (v : Value) (W : World) => ta_no (P := Tryd.prog) (t := 93) (a := 99) (xT := 20) v (.pointer none) (by kernel_rfl) (by kernel_rfl) (by decide) W
  have ta100 := fun (v : Value) (W : World) => ta_no (P := Tryd.prog) (t := 93) (a := 100) (xT := 20) v (.pointer none) (by kernel_rfl) (by kernel_rfl) (by decide) W
  have ta101 := fun (v : Value) (W : World) => ta_no (P := Tryd.prog) (t := 93) (a := 101) (xT := 20) v (.pointer none) (by kernel_rfl) (by kernel_rfl) (by decide) W
  have ta102 := fun (v : Value) (W : World) => ta_no (P := Tryd.prog) (t := 93) (a := 102) (xT := 20) v (.pointer none) (by kernel_rfl) (by kernel_rfl) (by decide) W
  have ta103 := fun (v : Value) (W : World) => ta_no (P := Tryd.prog) (t := 93) (a := 103) (xT := 20) v (.pointer none) (by kernel_rfl) (by kernel_rfl) (by decide) W
  have ta104 := fun (v : Value) (W : World) => ta_no (P := Tryd.prog) (t := 93) (a := 104) (xT := 20) v (.pointer none) (by kernel_rfl) (by kernel_rfl) (by decide) W
  have ta105 := fun (v : Value) (W : World) => ta_no (P := Tryd.prog) (t := 93) (a := 105) (xT := 20) v (.pointer none) (by kernel_rfl) (by kernel_rfl) (by decide) W
  have ta106 := fun (v : Value) (W : World) => ta_no (P := Tryd.prog) (t := 93) (a := 106) (xT := 20) v (.pointer none) (by kernel_rfl) (by kernel_rfl) (by decide) W
  have ta107 := fun (v : Value) (W : World) => ta_no (P := Tryd.prog) (t := 93) (a := 107) (xT := 20) v (.pointer none) (by kernel_rfl) (by kernel_rfl) (by decide) W
  have ta108 := fun (v : Value) (W : World) => ta_no (P := Tryd.prog) (t := 93) (a := 108) (xT := 20) v (.pointer none) (by kernel_rfl) (by kernel_rfl) (by decide) W
  go_enter Tryd.func29, Tryd.ntmps29
  go_wp2
  go_ret
  exact ⟨rfl, by go_grown⟩
set_option maxRecDepth 100000 in
theorem size_i32 (w : World) : Calls Tryd.prog 26 #[] w fun e w' => e = .returned (.int .i64 4) ∧ Below w.heap.size w w' := by
  go_enter Tryd.func26, Tryd.ntmps26
  go_wp2_with (go_at_call 29; (with_reducible refine (size0_i32 _).mono ?_); rintro e w1 ⟨rfl, hb⟩)
  go_ret
  exact ⟨rfl, hb⟩

end Go.Proofs.YtcjobencclihdaaDoor.Lv
