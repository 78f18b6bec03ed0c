import Derived.Test.Qxb6613839aE15
namespace Go.Proofs.Qxb6613839a
open Go.RowKit
set_option linter.unusedVariables false
set_option linter.unusedSimpArgs false

/-- A slice of strings. -/
def Strs (w : World) (a : Option Addr) (n : Nat) (s : Nat → ByteArray) : Prop :=
  n = 0 ∨ ∃ b off, a = some ⟨b, off, none⟩ ∧ ∀ i, i < n → w.cell? ⟨b, off + i, none⟩ = some (.string (s i))
theorem Strs.below {w w' : World} {a : Option Addr} {n : Nat} {s : Nat → ByteArray} (h : Strs w a n s) (hb : Below w.heap.size w w') : Strs w' a n s := by
  rcases h with h | ⟨b, off, ha, h⟩
  · exact .inl h
  exact .inr ⟨b, off, ha, fun i hi => cell_keep (h i hi) hb⟩
theorem Strs.at {w : World} {a : Option Addr} {n : Nat} {s : Nat → ByteArray} (h : Strs w a n s) {k : Nat} (hk : k < n) : ∃ b off, a = some ⟨b, off, none⟩ ∧ w.cell? ⟨b, off + k, none⟩ = some (.string (s k)) := by
  rcases h with h | ⟨b, off, ha, h⟩
  · omega
  · exact ⟨b, off, ha, h k hk⟩

/-- Each of the first n strings is short. -/
def Small (s : Nat → ByteArray) (n : Nat) : Prop := ∀ i, i < n → (s i).size ≤ 1048576
theorem Small.succ {s : Nat → ByteArray} {n : Nat} (h : Small s n) (hn : ¬ (s n).size > 1048576) : Small s (n + 1) := by
  intro i hi
  by_cases e : i = n
  · subst e; omega
  · exact h i (by omega)

set_option maxRecDepth 100000 in
set_option maxHeartbeats 1000000 in
theorem zz11_any (a0 a1 a2 : Option Addr) (n0 c0 n1 c1 n2 c2 : Nat) (cut : Int) (s0 s1 : Nat → ByteArray) (w : World) (h0 : Strs w a0 n0 s0) (h1 : Strs w a1 n1 s1) (m0 : n0 ≤ maxLen) (m1 : n1 ≤ maxLen) (m2 : n2 ≤ maxLen) :
    Calls Try.prog 11 #[.slice a0 n0 c0, .slice a1 n1 c1, .slice a2 n2 c2, .int .i64 cut] w fun e w' => ∃ r, e = .returned (.bool r) ∧ (r = true → Small s0 n0 ∧ Small s1 n1) ∧ Below w.heap.size w w' := by
  unfold maxLen at m0 m1 m2
  have H0 := hid h0
  have H1 := hid h1
  clear h0 h1
  by_cases q0 : n0 > 1048576
  · go_enter Try.func11, Try.ntmps11
    go_wp2
    go_ret
    exact ⟨_, rfl, by simp, Below.refl _ _⟩
  go_enter Try.func11, Try.ntmps11
  go_wp2_with fail
  go_loopw [9, 10] (fun z i wr => ∃ (k : Nat) (q : Int), k ≤ n0 ∧ Hid (Small s0 k) ∧ i = .int .i64 k ∧ z = .int .i64 q ∧ 0 ≤ q ∧ q ≤ 1048576 ∧ Below w.heap.size w wr) (fun _ i _ => n0 - (intOf i).toNat)
  case atStart => exact ⟨0, n0, by omega, fun i hi => by omega, rfl, rfl, by omega, by omega, Below.refl _ _⟩
  case round =>
    obtain ⟨k, q, hk, HS, rfl, rfl, hq0, hq1, hbel⟩ := hrel
    by_cases hlt : k < n0
    · obtain ⟨b, off, rfl, hc⟩ := (H0.out.below hbel).at hlt
      have HSn := hid (fun h => HS.out.succ (s := s0) h)
      generalize s0 k = st at *
      by_cases e1 : st.size > 1048576
      · go_wp2
        go_ret
        exact ⟨_, rfl, by simp, hbel⟩
      by_cases e2 : q + st.size > 1048576
      · go_wp2
        go_ret
        exact ⟨_, rfl, by simp, hbel⟩
      go_wp2
      go_roundw
      case rel => exact ⟨k + 1, _, by omega, HSn.out e1, by go_num, rfl, by omega, by omega, hbel⟩
      case measure => simp [intOf]; omega
    have HS0 : Hid (Small s0 n0) := by
      have hk0 : k = n0 := by omega
      exact hk0 ▸ HS.out
    clear HS
    by_cases q1 : n1 > 1048576
    · go_wp2
      go_ret
      exact ⟨_, rfl, by simp, hbel⟩
    by_cases q2 : q + n1 > 1048576
    · go_wp2
      go_ret
      exact ⟨_, rfl, by simp, hbel⟩
    go_wp2_with fail
    go_loopw [9, 11] (fun z i wr => ∃ (k : Nat) (q : Int), k ≤ n1 ∧ Hid (Small s1 k) ∧ i = .int .i64 k ∧ z = .int .i64 q ∧ 0 ≤ q ∧ q ≤ 1048576 ∧ Below w.heap.size w wr) (fun _ i _ => n1 - (intOf i).toNat)
    case atStart => exact ⟨0, _, by omega, fun i hi => by omega, rfl, rfl, by omega, by omega, hbel⟩
    case round =>
      clear hbel
      obtain ⟨k, q, hk, HS, rfl, rfl, hq0, hq1, hbel⟩ := hrel
      by_cases hlt : k < n1
      · obtain ⟨b, off, rfl, hc⟩ := (H1.out.below hbel).at hlt
        have HSn := hid (fun h => HS.out.succ (s := s1) h)
        generalize s1 k = st at *
        by_cases e1 : st.size > 1048576
        · go_wp2
          go_ret
          exact ⟨_, rfl, by simp, hbel⟩
        by_cases e2 : q + st.size > 1048576
        · go_wp2
          go_ret
          exact ⟨_, rfl, by simp, hbel⟩
        go_wp2
        go_roundw
        case rel => exact ⟨k + 1, _, by omega, HSn.out e1, by go_num, rfl, by omega, by omega, hbel⟩
        case measure => simp [intOf]; omega
      by_cases q1 : n2 > 1048576
      · go_wp2
        go_ret
        exact ⟨_, rfl, by simp, hbel⟩
      by_cases q2 : q + n2 > 1048576
      · go_wp2
        go_ret
        exact ⟨_, rfl, by simp, hbel⟩
      go_wp2_with fail
      go_ret
      refine .inr ⟨rfl, ⟨HS0.out, ?_⟩, hbel⟩
      have hk1 : k = n1 := by omega
      exact hk1 ▸ HS.out
end Go.Proofs.Qxb6613839a
