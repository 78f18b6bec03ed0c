import Derived.Test.Qxb6613359aW6
import Derived.ChangeKeysEq
namespace Go.Proofs.Qxb6613359a
open Go.RowKit

theorem Try.cellsOf3 : Try.prog.cellsOf 3 = 1 := by kernel_rfl

theorem run_part3 (x : Nat → Int) (i : Nat) (h : i < 12) (w : World) : (part 3 (cells12 x) (i * 1)).run Try.prog w = .ok (.int .i64 (x i)) w := by
  match i, h with
  | 0, _ | 1, _ | 2, _ | 3, _ | 4, _ | 5, _ | 6, _ | 7, _ | 8, _ | 9, _ | 10, _ | 11, _ => simp [go_sem]

theorem run_items (f g : Nat → Int) (d : Nat) (w : World) : ∀ is : List Nat, (∀ i ∈ is, i < 12) → (Op.eqItems (d + 1) 3 (Try.prog.cellsOf 3) (cells12 f) (cells12 g) is).run Try.prog w = .ok (is.all fun i => f i == g i) w
  | [], _ => by simp [Op.eqItems]
  | i :: is, h => by
    have hi : i < 12 := h i (by simp)
    have ih := run_items f g d w is (fun j hj => h j (by simp [hj]))
    rw [Try.cellsOf3] at ih ⊢
    simp only [Op.eqItems, Sem.run_bind, run_part3 f i hi, run_part3 g i hi, Result.andThen_ok, run_equalIn_int w d 3 .i64 .i64 _ _ Try.underlying3, List.all_cons]
    cases f i == g i
    · simp
    · simpa using ih

theorem run_eq12 (f g : Nat → Int) (w : World) : (Op.equalIn 10000 22 (.agg (cells12 f)) (.agg (cells12 g))).run Try.prog w = .ok ((List.range 12).all fun i => f i == g i) w := by
  obtain ⟨i3, hi3, _⟩ := info_parts Try.info3
  rw [run_equalIn_array w 9999 (cells12 f) (cells12 g) Try.underlying22 hi3]
  exact run_items f g 9998 w _ (fun i hi => by simpa using hi)
theorem run_same12 (f : Nat → Int) (w : World) : (Op.equalIn 10000 22 (.agg (cells12 f)) (.agg (cells12 f))).run Try.prog w = .ok true w := by
  rw [run_eq12]; simp
end Go.Proofs.Qxb6613359a
