/- A value in an interface that is asked for its type; the model's words for floats and their bits. -/
import Derived.Test.YtbghkoalmjfpiaaR4V
import Derived.Laws.Externs
import Derived.Stop.Asserts
namespace Go.Proofs.Ytbghkoalmjfpiaa.Plain
open Go.RowKit Go.Proofs.YtbghkoalmjfpiaaW.PrintWords Go.Proofs.YtbghkoalmjfpiaaW.PrintLast Go.Proofs.YtbghkoalmjfpiaaW.PrintMore Go.Proofs.Ytbghkoalmjfpiaa.PBatchedValues
set_option linter.unusedVariables false
set_option linter.unusedSimpArgs false

/-- A type that is no interface. -/
def plainB (P : Program) (a : TypeId) : Bool := match P.underlying a with | some (.interface _) => false | some _ => true | none => false
theorem ta_yes {P : Program} {t xT : TypeId} (v : Value) (h : plainB P t = true) (w : World) : (Instr.typeAssert (.iface t v) xT t true).run P w = .ok (.tuple #[v, .bool true]) w := by
  unfold plainB at h
  cases hu : P.underlying t with
  | none => rw [hu] at h; cases h
  | some d =>
    rw [hu] at h
    cases d <;> simp at h <;> simp [Instr.typeAssert, run_underlying hu, go_sem, Result.andThen]
theorem ta_no {P : Program} {t a xT : TypeId} (v z : Value) (h : plainB P a = true) (hz : (P.info? a).map (·.zero) = some (some z)) (hne : t ≠ a) (w : World) : (Instr.typeAssert (.iface t v) xT a true).run P w = .ok (.tuple #[z, .bool false]) w := by
  unfold plainB at h
  obtain ⟨i, hi, hiz⟩ := Option.map_eq_some_iff.1 hz
  cases hu : P.underlying a with
  | none => rw [hu] at h; cases h
  | some d =>
    rw [hu] at h
    cases d <;> simp at h <;> simp [Instr.typeAssert, run_underlying hu, go_sem, Result.andThen, hne, zeroValue, typeInfo, hi, hiz]
/-! ### floats -/
theorem run_store_float (P : Program) (w : World) (a : Addr) (m : Mode) (k : FloatKind) (b : Nat) : (store a (.float k b) m).run P w = stored P w a (.float k b) m := run_store P w a _ m rfl
theorem from32 (n : Int) (W : World) : (callFunc 106 #[.int .u32 n]).run Try.prog W = .ok (.value (.float .f32 n.toNat)) W := by
  rw [run_callFunc_extern (e := Extern.MathFloatBits.float32frombits) Try.func106 rfl rfl (by rfl) (by rfl)]
  rfl
theorem from64 (n : Int) (W : World) : (callFunc 107 #[.int .u64 n]).run Try.prog W = .ok (.value (.float .f64 n.toNat)) W := by
  rw [run_callFunc_extern (e := Extern.MathFloatBits.float64frombits) Try.func107 rfl rfl (by rfl) (by rfl)]
  rfl
theorem bits32 (n : Nat) (W : World) : (callFunc 86 #[.float .f32 n]).run Try.prog W = .ok (.value (.int .u32 (n : Int))) W := by
  rw [run_callFunc_extern (e := Extern.MathFloatBits.float32bits) Try.func86 rfl rfl (by rfl) (by rfl)]
  rfl
theorem bits64 (n : Nat) (W : World) : (callFunc 89 #[.float .f64 n]).run Try.prog W = .ok (.value (.int .u64 (n : Int))) W := by
  rw [run_callFunc_extern (e := Extern.MathFloatBits.float64bits) Try.func89 rfl rfl (by rfl) (by rfl)]
  rfl

end Go.Proofs.Ytbghkoalmjfpiaa.Plain
