import Derived.Test.Qxb6613837aW17
namespace Go.Proofs.Qxb6613837a
open Go.RowKit
set_option linter.unusedVariables false
set_option linter.unusedSimpArgs false

/-- How many of the first n nodes run on node i's host. -/
def cnt (s : Nat → ByteArray) (i n : Nat) : Nat := sumTo n fun j => if (s j).toList = (s i).toList then 1 else 0
theorem cnt_le (s : Nat → ByteArray) (i n : Nat) : cnt s i n ≤ n := by
  unfold cnt
  have := sumTo_le (n := n) (f := fun j => if (s j).toList = (s i).toList then 1 else 0) (g := fun _ => 1) (fun j _ => by show (if (s j).toList = (s i).toList then 1 else 0) ≤ 1; split <;> omega)
  rw [sumTo_const] at this
  omega
theorem SRow.drewN {w : World} {b n : Nat} {s : Nat → ByteArray} (h : SRow w b n s) (q : Nat) : SRow (w.drewN q) b n s := h.of_block rfl

set_option maxRecDepth 100000 in
set_option maxHeartbeats 1000000 in
theorem same_any {w : World} {hb k ch i : Nat} {s : Nat → ByteArray} (hk : k ≤ 1000000) (hS : SRow w hb k s) (hi : i < k) :
    Calls Try.prog 23 #[.slice (some ⟨hb, 0, none⟩) k ch, .int .i64 i] w fun e w' => e = .returned (.int .i64 (cnt s i k)) ∧ ∃ m, w' = w.drewN m := by
  have hSh := hid hS
  have ci := hS.cell hi
  clear hS
  go_enter Try.func23, Try.ntmps23
  go_wp2_with fail
  go_loopg [5, 6] k (fun n v5 v6 wr => ∃ (j m : Nat), v6 = .int .i64 j ∧ v5 = .int .i64 (cnt s i j) ∧ Hid (n + j = k) ∧ wr = w.drewN m)
  case atStart => exact ⟨0, 0, rfl, rfl, hid (by omega), rfl⟩
  case round =>
    obtain ⟨j, m, rfl, rfl, hn, rfl⟩ := hrel
    by_cases hj : j < k
    · have hj' : (j : Int) < (k : Int) := by omega
      have cj := hSh.out.cell hj
      have hc := cnt_le s i j
      have hw1 : IntKind.i64.wrap ((j : Int) + 1) = ((j + 1 : Nat) : Int) := by rw [IntKind.wrap_i64]; omega
      obtain ⟨c, hc0⟩ : ∃ x, x = cnt s i j := ⟨_, rfl⟩
      rw [← hc0] at hc ⊢
      have hw2 : IntKind.i64.wrap ((c : Int) + 1) = ((c + 1 : Nat) : Int) := by rw [IntKind.wrap_i64]; omega
      have hch := hid hc0
      clear hc0
      by_cases he : (s j).toList = (s i).toList
      · have heb : ((s j).toList == (s i).toList) = true := by simp [he]
        have heh := hid he
        clear he
        go_wp2_with fail
        go_quiet (fail)
        go_wp2
        go_roundg (gk - 1)
        case measure => have := hn.out; omega
        case rel =>
          refine ⟨j + 1, _, rfl, ?_, hid (by have := hn.out; omega), rfl⟩
          have : cnt s i (j + 1) = c + 1 := by unfold cnt; rw [sumTo, if_pos heh.out, hch.out]; rfl
          rw [this]; rfl
      · have heb : ((s j).toList == (s i).toList) = false := by simp; exact he
        have heh := hid he
        clear he
        go_wp2_with fail
        go_quiet (fail)
        go_wp2
        go_roundg (gk - 1)
        case measure => have := hn.out; omega
        case rel =>
          refine ⟨j + 1, _, rfl, ?_, hid (by have := hn.out; omega), rfl⟩
          have : cnt s i (j + 1) = c := by unfold cnt; rw [sumTo, if_neg heh.out, hch.out]; rfl
          rw [this]
    · have hj' : ¬ (j : Int) < (k : Int) := by omega
      have hjk : k = j := by have := hn.out; omega
      subst hjk
      go_wp2
      go_ret
      exact ⟨rfl, _, rfl⟩

/-- What zzNoHostOverHalf answers. -/
def HalfPost (s : Nat → ByteArray) (k : Nat) (r : Bool) : Prop := r = true ↔ ∀ i, i < k → 2 * cnt s i k ≤ k
def HalfEnd (s : Nat → ByteArray) (k : Nat) (w : World) (e : Ending) (w' : World) : Prop := ∃ r m, e = .returned (.bool r) ∧ HalfPost s k r ∧ w' = w.drewN m
def FirstEnd (w : World) (e : Ending) (w' : World) : Prop := ∃ r m, e = .returned (.bool r) ∧ w' = w.drewN m
set_option maxRecDepth 100000 in
set_option maxHeartbeats 1000000 in
theorem half_any {w : World} {hb k ch : Nat} {h : Option Addr} {s : Nat → ByteArray} (hk : k ≤ 1000000) (hh : 0 < k → h = some ⟨hb, 0, none⟩) (hS : 0 < k → SRow w hb k s) :
    Calls Try.prog 11 #[.slice h k ch] w fun e w' => HalfEnd s k w e w' := by
  have hSh := hid hS
  have hhh := hid hh
  clear hS hh
  go_enter Try.func11, Try.ntmps11
  go_wp2_with fail
  go_loopg [3] k (fun n v3 wr => ∃ (i m : Nat), v3 = .int .i64 i ∧ Hid (n + i = k) ∧ Hid (∀ j, j < i → 2 * cnt s j k ≤ k) ∧ wr = w.drewN m)
  case atStart => exact ⟨0, 0, rfl, hid (by omega), hid (fun j hj => by omega), rfl⟩
  case round =>
    obtain ⟨i, m, rfl, hn, hall, rfl⟩ := hrel
    by_cases hi : i < k
    · have hi' : (i : Int) < (k : Int) := by omega
      have ha := hhh.out (by omega)
      subst ha
      have SM := hid (same_any (i := i) (ch := ch) hk ((hSh.out (by omega)).drewN m) hi)
      have hc := cnt_le s i k
      obtain ⟨c, hc0⟩ : ∃ x, x = cnt s i k := ⟨_, rfl⟩
      rw [← hc0] at hc SM
      have hw1 : IntKind.i64.wrap (2 * (c : Int)) = 2 * (c : Int) := by rw [IntKind.wrap_i64]; omega
      have hw2 : IntKind.i64.wrap ((i : Int) + 1) = ((i + 1 : Nat) : Int) := by rw [IntKind.wrap_i64]; omega
      have hch := hid hc0
      clear hc0
      by_cases q : 2 * c > k
      · have q' : (k : Int) < 2 * (c : Int) := by omega
        go_wp2_with (go_at_call 23; refine SM.out.mono ?_; rintro e w1 ⟨rfl, m2, rfl⟩)
        go_ret
        show HalfEnd _ _ _ _ _
        unfold HalfEnd
        refine ⟨false, m + m2, rfl, ?_, by simp⟩
        constructor
        · intro h; cases h
        · intro h; have := h i hi; have := hch.out; omega
      · have q' : ¬ (k : Int) < 2 * (c : Int) := by omega
        go_wp2_with (go_at_call 23; refine SM.out.mono ?_; rintro e w1 ⟨rfl, m2, rfl⟩)
        go_roundg (gk - 1)
        case measure => have := hn.out; omega
        case rel =>
          refine ⟨i + 1, m + m2, rfl, hid (by have := hn.out; omega), hid (fun j hj => ?_), by simp⟩
          by_cases e : j = i
          · subst e; have := hch.out; omega
          · exact hall.out j (by omega)
    · have hi' : ¬ (i : Int) < (k : Int) := by omega
      go_wp2
      go_ret
      unfold HalfEnd
      exact ⟨true, m, rfl, ⟨fun _ j hj => hall.out j (by have := hn.out; omega), fun _ => rfl⟩, rfl⟩

set_option maxRecDepth 100000 in
set_option maxHeartbeats 1000000 in
theorem square_any {w : World} {n0 X k : Nat} {Rx : Nat → Nat} {f : Nat → Nat → Int} (hk : k ≤ 1000000) (hX : XM w n0 X k k Rx f) :
    Calls Try.prog 12 #[.slice (some ⟨X, 0, none⟩) k k, .int .i64 k] w fun e w' => e = .returned (.bool true) ∧ w' = w := by
  have hXh := hid hX
  clear hX
  have heq : ∀ W, (binOp .eql 27 (.slice (some ⟨X, 0, none⟩) k k) (.slice none 0 0)).run Try.prog W = .ok (.bool false) W := fun W => Lib.run_eql_slice_nil W 27 22 _ _ _ _ _ Try.underlying27
  go_enter Try.func12, Try.ntmps12
  go_wp2_with fail
  go_loopg [5] k (fun n v5 wr => ∃ i : Nat, v5 = .int .i64 i ∧ Hid (n + i = k) ∧ wr = w)
  case atStart => exact ⟨0, rfl, hid (by omega), rfl⟩
  case round =>
    obtain ⟨i, rfl, hn, rfl⟩ := hrel
    by_cases hi : i < k
    · have hi' : (i : Int) < (k : Int) := by omega
      have hw2 : IntKind.i64.wrap ((i : Int) + 1) = ((i + 1 : Nat) : Int) := by rw [IntKind.wrap_i64]; omega
      have c := hXh.out.tbl.cell hi
      go_wp2
      go_roundg (gk - 1)
      case measure => have := hn.out; omega
      case rel => exact ⟨i + 1, rfl, hid (by have := hn.out; omega), rfl⟩
    · have hi' : ¬ (i : Int) < (k : Int) := by omega
      go_wp2
      go_ret
      exact ⟨rfl, rfl⟩

set_option maxRecDepth 100000 in
set_option maxHeartbeats 1000000 in
theorem first_any {w : World} {hb k ch i : Nat} {s : Nat → ByteArray} (hk : k ≤ 1000000) (hS : SRow w hb k s) (hi : i < k) :
    Calls Try.prog 13 #[.slice (some ⟨hb, 0, none⟩) k ch, .int .i64 i] w fun e w' => FirstEnd w e w' := by
  have hSh := hid hS
  have ci := hS.cell hi
  clear hS
  go_enter Try.func13, Try.ntmps13
  go_wp2_with fail
  go_loopg [5] i (fun n v5 wr => ∃ (j m : Nat), v5 = .int .i64 j ∧ Hid (n + j = i) ∧ wr = w.drewN m)
  case atStart => exact ⟨0, 0, rfl, hid (by omega), rfl⟩
  case round =>
    obtain ⟨j, m, rfl, hn, rfl⟩ := hrel
    by_cases hj : j < i
    · have hj' : (j : Int) < (i : Int) := by omega
      have hjk : j < k := by omega
      have cj := hSh.out.cell hjk
      have hw1 : IntKind.i64.wrap ((j : Int) + 1) = ((j + 1 : Nat) : Int) := by rw [IntKind.wrap_i64]; omega
      by_cases he : (s j).toList = (s i).toList
      · have heb : ((s j).toList == (s i).toList) = true := by simp [he]
        clear he
        go_wp2_with fail
        go_quiet (fail)
        go_wp2
        go_ret
        unfold FirstEnd
        exact ⟨_, m + nq, rfl, World.drewN_drewN _ _ _⟩
      · have heb : ((s j).toList == (s i).toList) = false := by simp; exact he
        clear he
        go_wp2_with fail
        go_quiet (fail)
        go_wp2
        go_roundg (gk - 1)
        case measure => have := hn.out; omega
        case rel => exact ⟨j + 1, _, rfl, hid (by have := hn.out; omega), rfl⟩
    · have hj' : ¬ (j : Int) < (i : Int) := by omega
      go_wp2
      go_ret
      unfold FirstEnd
      exact ⟨_, m, rfl, rfl⟩
end Go.Proofs.Qxb6613837a
