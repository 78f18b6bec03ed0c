import Derived.Test.Qxb6613839aRows
import Derived.WalkKit
import Derived.WalkSpells
import Derived.WalkLawsBesides
import Derived.BigRegion
import Derived.BigQuiet
import Derived.Deep.QuietTactic
import Derived.Deep.RegionHeld3
namespace Go.Proofs.Qxb6613839a
open Go.RowKit
set_option linter.unusedVariables false

theorem look_nil (p : ByteArray) (w : World) : (Instr.lookup 76 (.map none) (.string p) true).run Try.prog w = .ok (.tuple #[.nilIface, .bool false]) w := by
  kernel_rfl

theorem hit65 (v : Value) (w : World) : (Instr.typeAssert (.iface 65 v) 52 65 true).run Try.prog w = .ok (.tuple #[v, .bool true]) w := by kernel_rfl
theorem hit56 (v : Value) (w : World) : (Instr.typeAssert (.iface 56 v) 52 56 true).run Try.prog w = .ok (.tuple #[v, .bool true]) w := by kernel_rfl
theorem hit60 (v : Value) (w : World) : (Instr.typeAssert (.iface 60 v) 52 60 true).run Try.prog w = .ok (.tuple #[v, .bool true]) w := by kernel_rfl
theorem hit69 (v : Value) (w : World) : (Instr.typeAssert (.iface 69 v) 52 69 true).run Try.prog w = .ok (.tuple #[v, .bool true]) w := by kernel_rfl
theorem hit68 (v : Value) (w : World) : (Instr.typeAssert (.iface 68 v) 52 68 true).run Try.prog w = .ok (.tuple #[v, .bool true]) w := by kernel_rfl
theorem hit4 (v : Value) (w : World) : (Instr.typeAssert (.iface 4 v) 20 4 false).run Try.prog w = .ok v w := by kernel_rfl
theorem hit9 (v : Value) (w : World) : (Instr.typeAssert (.iface 9 v) 20 9 false).run Try.prog w = .ok v w := by kernel_rfl

theorem miss_of {t a : TypeId} {d : TypeDesc} {z : Value} (v : Value) (w : World) (hu : Try.prog.underlying a = some d) (hd : ∀ m, d ≠ .interface m) (hz : ∀ w, (zeroValue a).run Try.prog w = .ok z w) (h : ¬ t = a) :
    (Instr.typeAssert (.iface t v) 52 a true).run Try.prog w = .ok (.tuple #[z, .bool false]) w := by
  simp only [Instr.typeAssert, Sem.run_bind, run_underlying hu, Result.andThen_ok]
  cases d <;> first | (exact absurd rfl (hd _)) | simp [h, hz]

theorem miss65 {t : TypeId} (v : Value) (w : World) (h : ¬ t = 65) : (Instr.typeAssert (.iface t v) 52 65 true).run Try.prog w = .ok (.tuple #[.agg #[.nilIface], .bool false]) w :=
  miss_of v w Try.underlying65 (by intro m e; cases e) (fun w => by kernel_rfl) h
theorem miss56 {t : TypeId} (v : Value) (w : World) (h : ¬ t = 56) : (Instr.typeAssert (.iface t v) 52 56 true).run Try.prog w = .ok (.tuple #[.agg #[.nilIface], .bool false]) w :=
  miss_of v w Try.underlying56 (by intro m e; cases e) (fun w => by kernel_rfl) h
theorem miss85 {t : TypeId} (v : Value) (w : World) (h : ¬ t = 85) : (Instr.typeAssert (.iface t v) 52 85 true).run Try.prog w = .ok (.tuple #[.agg #[.nilIface, .nilIface], .bool false]) w :=
  miss_of v w Try.underlying85 (by intro m e; cases e) (fun w => by kernel_rfl) h
theorem miss60 {t : TypeId} (v : Value) (w : World) (h : ¬ t = 60) : (Instr.typeAssert (.iface t v) 52 60 true).run Try.prog w = .ok (.tuple #[.agg #[.nilIface, .nilIface], .bool false]) w :=
  miss_of v w Try.underlying60 (by intro m e; cases e) (fun w => by kernel_rfl) h
theorem miss88 {t : TypeId} (v : Value) (w : World) (h : ¬ t = 88) : (Instr.typeAssert (.iface t v) 52 88 true).run Try.prog w = .ok (.tuple #[.agg #[.nilIface, .nilIface], .bool false]) w :=
  miss_of v w Try.underlying88 (by intro m e; cases e) (fun w => by kernel_rfl) h
theorem miss68 {t : TypeId} (v : Value) (w : World) (h : ¬ t = 68) : (Instr.typeAssert (.iface t v) 52 68 true).run Try.prog w = .ok (.tuple #[.agg #[.string ⟨#[]⟩, .int .i64 0], .bool false]) w :=
  miss_of v w Try.underlying68 (by intro m e; cases e) (fun w => by kernel_rfl) h

theorem meth65 (v : Value) (w : World) : (method 224 65 v "example.com/custodian/custodian/pkg/expr.bind").run Try.prog w = .ok (55, v) w := by kernel_rfl
theorem meth68 (v : Value) (w : World) : (method 224 68 v "example.com/custodian/custodian/pkg/expr.bind").run Try.prog w = .ok (58, v) w := by kernel_rfl
theorem meth69 (v : Value) (w : World) : (method 224 69 v "example.com/custodian/custodian/pkg/expr.bind").run Try.prog w = .ok (60, v) w := by kernel_rfl
theorem meth60 (v : Value) (w : World) : (method 224 60 v "example.com/custodian/custodian/pkg/expr.bind").run Try.prog w = .ok (52, v) w := by kernel_rfl
theorem meth56 (v : Value) (w : World) : (method 224 56 v "example.com/custodian/custodian/pkg/expr.bind").run Try.prog w = .ok (21, v) w := by kernel_rfl
theorem eval65 (v : Value) (w : World) : (method 224 65 v "example.com/custodian/custodian/pkg/expr.eval").run Try.prog w = .ok (56, v) w := by kernel_rfl
theorem eval56 (v : Value) (w : World) : (method 224 56 v "example.com/custodian/custodian/pkg/expr.eval").run Try.prog w = .ok (51, v) w := by kernel_rfl
theorem call55 (args : Array Value) (w : World) : (callFunc 55 args).run Try.prog w = .ok (.enter 55 args) w := by kernel_rfl
theorem call60 (args : Array Value) (w : World) : (callFunc 60 args).run Try.prog w = .ok (.enter 60 args) w := by kernel_rfl
theorem call52 (args : Array Value) (w : World) : (callFunc 52 args).run Try.prog w = .ok (.enter 52 args) w := by kernel_rfl
theorem call21 (args : Array Value) (w : World) : (callFunc 21 args).run Try.prog w = .ok (.enter 21 args) w := by kernel_rfl
end Go.Proofs.Qxb6613839a
