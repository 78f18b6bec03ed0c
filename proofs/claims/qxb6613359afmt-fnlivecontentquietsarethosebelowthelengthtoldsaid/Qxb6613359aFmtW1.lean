import Derived.Test.Qxb6613359aFmtRows
import Derived.WalkKit
import Derived.WalkSpells
import Derived.WalkLawsBesides
import Derived.BigRegion
import Derived.BigQuiet
import Derived.Deep.QuietTactic
import Derived.Stop.CallBack
import Derived.Stop.IfaceNil
namespace Go.Proofs.Qxb6613359aFmt
open Go.RowKit Go.Extern.Stop Go.Stop Go.Extern
set_option linter.unusedVariables false

theorem Tryf.call15 (args : Array Value) (w : World) : (callFunc 15 args).run Tryf.prog w = ((FmtStop.sprintf #[9, 83] #[9] args).run Tryf.prog w).andThen fun v w' => .ok (.value v) w' :=
  run_callFunc_extern Tryf.func15 (by kernel_rfl) (by kernel_rfl) (by kernel_rfl) (by kernel_rfl) args w
theorem Tryf.guard (name : String) (w : World) : (FmtStop.guard name).run Tryf.prog w = .ok () w := by kernel_rfl
theorem Tryf.fmt2 : FmtStop.printed? ⟨#[110, 111, 32, 108, 101, 97, 100, 101, 114, 32, 99, 111, 109, 109, 105, 116, 116, 101, 100, 32, 97, 110, 32, 101, 110, 116, 114, 121, 32, 111, 102, 32, 105, 116, 115, 32, 111, 119, 110, 32, 116, 101, 114, 109, 32, 105, 110, 32, 116, 104, 101, 32, 113, 117, 105, 101, 116, 32, 112, 101, 114, 105, 111, 100, 59, 32, 37, 100, 32, 101, 110, 116, 114, 105, 101, 115, 32, 119, 101, 114, 101, 32, 99, 111, 109, 109, 105, 116, 116, 101, 100, 32, 98, 101, 102, 111, 114, 101, 32, 105, 116, 44, 32, 37, 100, 32, 98, 121, 32, 105, 116, 115, 32, 101, 110, 100]⟩ 2 = some [(0, 100, false), (1, 100, false)] := by kernel_rfl
theorem Tryf.fmt2r (w : World) : (FmtDoors.printed ⟨#[110, 111, 32, 108, 101, 97, 100, 101, 114, 32, 99, 111, 109, 109, 105, 116, 116, 101, 100, 32, 97, 110, 32, 101, 110, 116, 114, 121, 32, 111, 102, 32, 105, 116, 115, 32, 111, 119, 110, 32, 116, 101, 114, 109, 32, 105, 110, 32, 116, 104, 101, 32, 113, 117, 105, 101, 116, 32, 112, 101, 114, 105, 111, 100, 59, 32, 37, 100, 32, 101, 110, 116, 114, 105, 101, 115, 32, 119, 101, 114, 101, 32, 99, 111, 109, 109, 105, 116, 116, 101, 100, 32, 98, 101, 102, 111, 114, 101, 32, 105, 116, 44, 32, 37, 100, 32, 98, 121, 32, 105, 116, 115, 32, 101, 110, 100]⟩ 2).run Tryf.prog w = .ok [(0, 100, false), (1, 100, false)] w := by kernel_rfl
def Tryf.shape3 : List UInt8 := [5, 3, 0, 0, 0, 0, 0, 0, 0, 105, 110, 116]
theorem Tryf.op3_100 (name : String) (x : Int) (w : World) : (FmtStop.operand name false 100 false (.iface 3 (.int .i64 x))).run Tryf.prog w = .ok (Tryf.shape3, Go.Extern.Stop.digits 8 (x % 2 ^ 64).toNat) w := by kernel_rfl

attribute [local go_sem] Tryf.call15 Tryf.guard Tryf.op3_100 Tryf.fmt2 Tryf.fmt2r

/-- What a violation that 'live' reports looks like. -/
def Viol (w : World) (e : Ending) (w' : World) : Prop :=
  ∃ b s, e = .returned (.pointer (some ⟨b, 0, none⟩)) ∧ w.heap.size ≤ b ∧ w'.heap[b]? = some (.cells #[.string ⟨#[108, 105, 118, 101, 110, 101, 115, 115]⟩, .string s] 53 (0, 0)) ∧ Below w.heap.size w w'

theorem viol_end {w w1 : World} {s : ByteArray} {o : Obj} (hz : w1.heap.size = w.heap.size) (hb : Below w.heap.size w w1) :
    Viol w (.returned (.pointer (some ⟨w1.heap.size + 1, 0, none⟩))) ((w1.alloc o).alloc (.cells #[.string ⟨#[108, 105, 118, 101, 110, 101, 115, 115]⟩, .string s] 53)).drew := by
  refine ⟨_, s, rfl, by omega, ?_, ((hb.alloc (by omega) _).alloc (by simp; omega) _).drew⟩
  have := heap_alloc_new (w1.alloc o) (.cells #[.string ⟨#[108, 105, 118, 101, 110, 101, 115, 115]⟩, .string s] 53)
  rw [World.size_alloc] at this
  exact this

set_option maxRecDepth 100000 in
set_option maxHeartbeats 1000000 in
/-- 'live' where there is no leader. -/
theorem live_none (F : Interp) (cb g : Nat) (m : Nat) (quiet : Int) (w : World) (hF : F.answers w.tape) (hm : m ≤ 1000000) (hc : w.cell? ⟨cb, 3, none⟩ = some (.slice (some ⟨g, 0, none⟩) m m)) :
    Calls Tryf.prog 14 #[.pointer (some ⟨cb, 0, none⟩), .pointer none, .int .i64 quiet] w (Viol w) := by
  go_enter Tryf.func14, Tryf.ntmps14
  go_wp2_with fail
  go_quiet (fail)
  obtain ⟨w1, hw1, HW⟩ : ∃ w1, w.drewN nq = w1 ∧ Hid (F.answers w1.tape ∧ w1.heap.size = w.heap.size ∧ Below w.heap.size w w1) := ⟨_, rfl, hF, rfl, rfl, rfl, rfl, Nat.le_refl _, fun _ _ => rfl⟩
  rw [hw1]
  clear hw1 hc
  have hF' := answers_open HW.out.1
  go_wp2_with fail
  go_ret
  exact viol_end HW.out.2.1 HW.out.2.2

set_option maxRecDepth 100000 in
set_option maxHeartbeats 1000000 in
/-- 'live' where the log holds no more than 'quiet' entries. -/
theorem live_old (F : Interp) (cb g lb : Nat) (m : Nat) (quiet : Int) (w : World) (hF : F.answers w.tape) (hm : m ≤ 1000000) (hc : w.cell? ⟨cb, 3, none⟩ = some (.slice (some ⟨g, 0, none⟩) m m)) (hq : (m : Int) ≤ quiet) :
    Calls Tryf.prog 14 #[.pointer (some ⟨cb, 0, none⟩), .pointer (some ⟨lb, 0, none⟩), .int .i64 quiet] w (Viol w) := by
  have hd : decide ((m : Int) ≤ quiet) = true := by simpa using hq
  go_enter Tryf.func14, Tryf.ntmps14
  go_wp2_with fail
  go_quiet (fail)
  obtain ⟨w1, hw1, HW⟩ : ∃ w1, w.drewN nq = w1 ∧ Hid (F.answers w1.tape ∧ w1.heap.size = w.heap.size ∧ Below w.heap.size w w1) := ⟨_, rfl, hF, rfl, rfl, rfl, rfl, Nat.le_refl _, fun _ _ => rfl⟩
  rw [hw1]
  clear hw1 hc
  have hF' := answers_open HW.out.1
  go_wp2_with fail
  go_ret
  exact viol_end HW.out.2.1 HW.out.2.2

set_option maxRecDepth 100000 in
set_option maxHeartbeats 1000000 in
/-- 'live' where the last entry is of another term than the leader's. -/
theorem live_other (F : Interp) (cb g lb k : Nat) (quiet tt lt : Int) (w : World) (hF : F.answers w.tape) (hm : k + 1 ≤ 1000000) (hc : w.cell? ⟨cb, 3, none⟩ = some (.slice (some ⟨g, 0, none⟩) (k + 1) (k + 1))) (hq : quiet ≤ k) (ht : w.cell? ⟨g, k * 3, none⟩ = some (.int .u64 tt)) (hl : w.cell? ⟨lb, 2, none⟩ = some (.int .u64 lt)) (hne : (tt == lt) = false) :
    Calls Tryf.prog 14 #[.pointer (some ⟨cb, 0, none⟩), .pointer (some ⟨lb, 0, none⟩), .int .i64 quiet] w (Viol w) := by
  have hd : decide ((k : Int) + 1 ≤ quiet) = false := by simp; omega
  go_enter Tryf.func14, Tryf.ntmps14
  go_wp2_with fail
  go_quiet (fail)
  obtain ⟨w1, hw1, HW⟩ : ∃ w1, w.drewN nq = w1 ∧ Hid (F.answers w1.tape ∧ w1.heap.size = w.heap.size ∧ Below w.heap.size w w1) := ⟨_, rfl, hF, rfl, rfl, rfl, rfl, Nat.le_refl _, fun _ _ => rfl⟩
  rw [hw1]
  clear hw1 hc
  have hF' := answers_open HW.out.1
  go_wp2_with fail
  go_ret
  exact viol_end HW.out.2.1 HW.out.2.2

set_option maxRecDepth 100000 in
set_option maxHeartbeats 1000000 in
/-- 'live' where the leader has committed an entry of its own term. -/
theorem live_own (cb g lb k : Nat) (quiet lt : Int) (w : World) (hm : k + 1 ≤ 1000000) (hc : w.cell? ⟨cb, 3, none⟩ = some (.slice (some ⟨g, 0, none⟩) (k + 1) (k + 1))) (hq : quiet ≤ k) (ht : w.cell? ⟨g, k * 3, none⟩ = some (.int .u64 lt)) (hl : w.cell? ⟨lb, 2, none⟩ = some (.int .u64 lt)) :
    Calls Tryf.prog 14 #[.pointer (some ⟨cb, 0, none⟩), .pointer (some ⟨lb, 0, none⟩), .int .i64 quiet] w fun e w' => e = .returned (.pointer none) ∧ Below w.heap.size w w' := by
  have hd : decide ((k : Int) + 1 ≤ quiet) = false := by simp; omega
  go_enter Tryf.func14, Tryf.ntmps14
  go_wp2_with fail
  go_quiet (fail)
  go_wp2_with fail
  go_ret
  exact ⟨rfl, rfl, rfl, rfl, Nat.le_refl _, fun _ _ => rfl⟩
end Go.Proofs.Qxb6613359aFmt
