import Derived.Test.Qxb6613359aRows
import Derived.WalkKit
import Derived.WalkSpells
import Derived.WalkLawsBesides
import Derived.BigRegion
import Derived.BigQuiet
import Derived.Deep.QuietTactic
namespace Go.Proofs.Qxb6613359a
open Go.RowKit

/-- Twelve numbers as cells. -/
abbrev cells12 (x : Nat → Int) : Array Value := #[.int .i64 (x 0), .int .i64 (x 1), .int .i64 (x 2), .int .i64 (x 3), .int .i64 (x 4), .int .i64 (x 5), .int .i64 (x 6), .int .i64 (x 7), .int .i64 (x 8), .int .i64 (x 9), .int .i64 (x 10), .int .i64 (x 11)]

set_option maxRecDepth 100000 in
set_option maxHeartbeats 1600000 in
theorem counts_any (x : Nat → Int) (w : World) :
    Calls Try.prog 6 #[.agg (cells12 x)] w fun e w' => e = .returned (.agg (cells12 x)) ∧ Below w.heap.size w w' := by
  unfold cells12
  go_enter Try.func6, Try.ntmps6
  go_wp2
  refine bodyPost_ret (v := .agg (cells12 x)) (by simp [results, Try.results6, go_sem]) rfl ⟨rfl, ?_⟩
  exact ((Below.refl _ _).alloc (Nat.le_refl _) _).alloc (by simp) _

/-- What 'named' lists: the names. -/
def names : List ByteArray := [⟨#[99, 114, 97, 115, 104, 101, 115]⟩, ⟨#[112, 97, 114, 116, 105, 116, 105, 111, 110, 115]⟩, ⟨#[100, 114, 111, 112, 112, 101, 100]⟩, ⟨#[100, 117, 112, 108, 105, 99, 97, 116, 101, 100]⟩, ⟨#[114, 101, 111, 114, 100, 101, 114, 101, 100]⟩, ⟨#[101, 108, 101, 99, 116, 105, 111, 110, 115]⟩, ⟨#[99, 111, 109, 109, 105, 116, 115]⟩, ⟨#[115, 110, 97, 112, 115, 104, 111, 116, 115]⟩, ⟨#[105, 110, 115, 116, 97, 108, 108, 115]⟩, ⟨#[102, 111, 114, 103, 111, 116, 116, 101, 110]⟩, ⟨#[109, 101, 109, 98, 101, 114, 95, 99, 104, 97, 110, 103, 101, 115]⟩, ⟨#[116, 114, 97, 110, 115, 102, 101, 114, 115]⟩]

/-- The cells of the list that 'named' makes over the struct in block b. -/
abbrev namedCells (b : Nat) : Array Value := #[.string ⟨#[99, 114, 97, 115, 104, 101, 115]⟩, .pointer (some ⟨b, 0, none⟩), .string ⟨#[112, 97, 114, 116, 105, 116, 105, 111, 110, 115]⟩, .pointer (some ⟨b, 1, none⟩), .string ⟨#[100, 114, 111, 112, 112, 101, 100]⟩, .pointer (some ⟨b, 2, none⟩), .string ⟨#[100, 117, 112, 108, 105, 99, 97, 116, 101, 100]⟩, .pointer (some ⟨b, 3, none⟩), .string ⟨#[114, 101, 111, 114, 100, 101, 114, 101, 100]⟩, .pointer (some ⟨b, 4, none⟩), .string ⟨#[101, 108, 101, 99, 116, 105, 111, 110, 115]⟩, .pointer (some ⟨b, 5, none⟩), .string ⟨#[99, 111, 109, 109, 105, 116, 115]⟩, .pointer (some ⟨b, 6, none⟩), .string ⟨#[115, 110, 97, 112, 115, 104, 111, 116, 115]⟩, .pointer (some ⟨b, 7, none⟩), .string ⟨#[105, 110, 115, 116, 97, 108, 108, 115]⟩, .pointer (some ⟨b, 8, none⟩), .string ⟨#[102, 111, 114, 103, 111, 116, 116, 101, 110]⟩, .pointer (some ⟨b, 9, none⟩), .string ⟨#[109, 101, 109, 98, 101, 114, 95, 99, 104, 97, 110, 103, 101, 115]⟩, .pointer (some ⟨b, 10, none⟩), .string ⟨#[116, 114, 97, 110, 115, 102, 101, 114, 115]⟩, .pointer (some ⟨b, 11, none⟩)]

set_option maxRecDepth 100000 in
set_option maxHeartbeats 1600000 in
theorem named_any (b : Nat) (w : World) :
    Calls Try.prog 11 #[.pointer (some ⟨b, 0, none⟩)] w fun e w' => e = .returned (.slice (some ⟨w.heap.size, 0, none⟩) 12 12) ∧ w' = (w.alloc (.cells (namedCells b) 39)).drew := by
  go_enter Try.func11, Try.ntmps11
  go_wp2
  go_region
  all_goals (try go_wp2)
  all_goals go_ret
  all_goals exact ⟨rfl, rfl⟩

end Go.Proofs.Qxb6613359a
