import Derived.Test.Qxb6613837aW17
namespace Go.Proofs.Qxb6613837a
open Go.RowKit
set_option linter.unusedVariables false
set_option linter.unusedSimpArgs false

/-- A slice of strings that came in. -/
def Strs (w : World) (a : Option Addr) (n : Nat) (s : Nat → ByteArray) : Prop :=
  n = 0 ∨ ∃ b off, a = some ⟨b, off, none⟩ ∧ ∀ i, i < n → w.cell? ⟨b, off + i, none⟩ = some (.string (s i))
theorem Strs.at {w : World} {a : Option Addr} {n : Nat} {s : Nat → ByteArray} (h : Strs w a n s) {k : Nat} (hk : k < n) : ∃ b off, a = some ⟨b, off, none⟩ ∧ w.cell? ⟨b, off + k, none⟩ = some (.string (s k)) := by
  rcases h with h | ⟨b, off, ha, h⟩
  · omega
  · exact ⟨b, off, ha, h k hk⟩

set_option maxRecDepth 100000 in
set_option maxHeartbeats 1000000 in
theorem zzb14_any (a0 a1 a2 : Option Addr) (n0 c0 n1 c1 n2 c2 : Nat) (s : Nat → ByteArray) (w : World) (h2 : Strs w a2 n2 s) (m0 : n0 ≤ maxLen) (m1 : n1 ≤ maxLen) (m2 : n2 ≤ maxLen) :
    Calls Try.prog 14 #[.slice a0 n0 c0, .slice a1 n1 c1, .slice a2 n2 c2] w fun e w' => (∃ r, e = .returned (.bool r)) ∧ w' = w := by
  unfold maxLen at m0 m1 m2
  have H2 := hid h2
  clear h2
  by_cases q0 : n0 > 1048576
  · go_enter Try.func14, Try.ntmps14
    go_wp2
    go_ret
    exact ⟨⟨_, rfl⟩, rfl⟩
  by_cases q1 : n1 > 1048576
  · go_enter Try.func14, Try.ntmps14
    go_wp2
    go_ret
    exact ⟨⟨_, rfl⟩, rfl⟩
  by_cases q2 : n0 + n1 > 1048576
  · have q2' : (n0 : Int) + n1 > 1048576 := by omega
    go_enter Try.func14, Try.ntmps14
    go_wp2
    go_ret
    exact ⟨⟨_, rfl⟩, rfl⟩
  by_cases q3 : n2 > 1048576
  · go_enter Try.func14, Try.ntmps14
    go_wp2
    go_ret
    exact ⟨⟨_, rfl⟩, rfl⟩
  by_cases q4 : n0 + n1 + n2 > 1048576
  · have q4' : (n0 : Int) + n1 + n2 > 1048576 := by omega
    go_enter Try.func14, Try.ntmps14
    go_wp2
    go_ret
    exact ⟨⟨_, rfl⟩, rfl⟩
  go_enter Try.func14, Try.ntmps14
  go_wp2_with fail
  go_loopg [7, 8] n2 (fun n z i wr => ∃ (k : Nat) (q : Int), i = .int .i64 k ∧ z = .int .i64 q ∧ Hid (n + k = n2) ∧ 0 ≤ q ∧ q ≤ 1048576 ∧ wr = w)
  case atStart => exact ⟨0, _, rfl, rfl, hid (by omega), by omega, by omega, rfl⟩
  case round =>
    obtain ⟨k, q, rfl, rfl, hn, hq0, hq1, rfl⟩ := hrel
    by_cases hlt : k < n2
    · obtain ⟨b, off, rfl, hc⟩ := H2.out.at hlt
      generalize s k = st at *
      by_cases e1 : st.size > 1048576
      · go_wp2
        go_ret
        exact ⟨⟨_, rfl⟩, rfl⟩
      by_cases e2 : q + st.size > 1048576
      · go_wp2
        go_ret
        exact ⟨⟨_, rfl⟩, rfl⟩
      go_wp2
      go_roundg (gk - 1)
      case measure => have := hn.out; omega
      case rel => exact ⟨k + 1, _, by go_num, rfl, hid (by have := hn.out; omega), by omega, by omega, rfl⟩
    · go_wp2
      go_ret
      exact ⟨⟨_, rfl⟩, rfl⟩

set_option maxRecDepth 100000 in
set_option maxHeartbeats 1000000 in
theorem zzb7_any (a0 a2 : Option Addr) (n0 c0 n2 c2 : Nat) (s : Nat → ByteArray) (w : World) (h2 : Strs w a2 n2 s) (m0 : n0 ≤ maxLen) (m2 : n2 ≤ maxLen) :
    Calls Try.prog 7 #[.slice a0 n0 c0, .slice a2 n2 c2] w fun e w' => (∃ r, e = .returned (.bool r)) ∧ w' = w := by
  unfold maxLen at m0 m2
  have H2 := hid h2
  clear h2
  by_cases q0 : n0 > 1048576
  · go_enter Try.func7, Try.ntmps7
    go_wp2
    go_ret
    exact ⟨⟨_, rfl⟩, rfl⟩
  by_cases q3 : n2 > 1048576
  · go_enter Try.func7, Try.ntmps7
    go_wp2
    go_ret
    exact ⟨⟨_, rfl⟩, rfl⟩
  by_cases q4 : n0 + n2 > 1048576
  · have q4' : (n0 : Int) + n2 > 1048576 := by omega
    go_enter Try.func7, Try.ntmps7
    go_wp2
    go_ret
    exact ⟨⟨_, rfl⟩, rfl⟩
  go_enter Try.func7, Try.ntmps7
  go_wp2_with fail
  go_loopg [5, 6] n2 (fun n z i wr => ∃ (k : Nat) (q : Int), i = .int .i64 k ∧ z = .int .i64 q ∧ Hid (n + k = n2) ∧ 0 ≤ q ∧ q ≤ 1048576 ∧ wr = w)
  case atStart => exact ⟨0, _, rfl, rfl, hid (by omega), by omega, by omega, rfl⟩
  case round =>
    obtain ⟨k, q, rfl, rfl, hn, hq0, hq1, rfl⟩ := hrel
    by_cases hlt : k < n2
    · obtain ⟨b, off, rfl, hc⟩ := H2.out.at hlt
      generalize s k = st at *
      by_cases e1 : st.size > 1048576
      · go_wp2
        go_ret
        exact ⟨⟨_, rfl⟩, rfl⟩
      by_cases e2 : q + st.size > 1048576
      · go_wp2
        go_ret
        exact ⟨⟨_, rfl⟩, rfl⟩
      go_wp2
      go_roundg (gk - 1)
      case measure => have := hn.out; omega
      case rel => exact ⟨k + 1, _, by go_num, rfl, hid (by have := hn.out; omega), by omega, by omega, rfl⟩
    · go_wp2
      go_ret
      exact ⟨⟨_, rfl⟩, rfl⟩

set_option maxRecDepth 100000 in
set_option maxHeartbeats 1000000 in
theorem zzints_any (a : Option Addr) (n c used : Nat) (w : World) (hu : used ≤ 1048577) (m : n ≤ maxLen) :
    Calls Try.prog 9 #[.int .i64 used, .slice a n c] w fun e w' => ∃ r : Nat, e = .returned (.int .i64 r) ∧ r ≤ 1048577 ∧ (r ≤ 1048576 → used ≤ 1048576 ∧ n ≤ 131072) ∧ w' = w := by
  unfold maxLen at m
  by_cases q0 : used > 1048576
  · go_enter Try.func9, Try.ntmps9
    go_wp2
    go_ret
    exact ⟨1048577, rfl, by omega, by omega, rfl⟩
  · have hw1 : IntKind.i64.wrap (1048576 - (used : Int)) = ((1048576 - used : Nat) : Int) := by rw [IntKind.wrap_i64]; omega
    obtain ⟨d, hd⟩ : ∃ d, d = 1048576 - used := ⟨_, rfl⟩
    obtain ⟨d8, hd8⟩ : ∃ d8, d8 = d / 8 := ⟨_, rfl⟩
    rw [← hd] at hw1
    have hq : IntKind.i64.wrap ((d : Int).tdiv 8) = (d8 : Int) := by
      have : (d : Int).tdiv 8 = (d8 : Int) := by rw [hd8]; rfl
      rw [this, IntKind.wrap_i64]; omega
    have hq' : (d : Int).tdiv 8 = (d8 : Int) := by rw [hd8]; rfl
    have hq64 : wrap64 (d8 : Int) = (d8 : Int) := by unfold wrap64; omega
    by_cases q1 : n > d8
    · have q1' : (d8 : Int) < (n : Int) := by omega
      have H := hid (And.intro hd hd8)
      clear hd hd8
      go_enter Try.func9, Try.ntmps9
      go_wp2
      go_ret
      exact ⟨1048577, rfl, by omega, by omega, rfl⟩
    · have q1' : ¬ (d8 : Int) < (n : Int) := by omega
      obtain ⟨r, hr⟩ : ∃ r, r = used + 8 * n := ⟨_, rfl⟩
      have hw2 : IntKind.i64.wrap (8 * (n : Int)) = 8 * (n : Int) := by rw [IntKind.wrap_i64]; omega
      have hw3 : IntKind.i64.wrap ((used : Int) + 8 * (n : Int)) = (r : Int) := by rw [IntKind.wrap_i64]; omega
      have H := hid (And.intro hd (And.intro hd8 hr))
      clear hd hd8 hr
      go_enter Try.func9, Try.ntmps9
      go_wp2
      go_ret
      obtain ⟨h1, h2, h3⟩ := H.out
      exact ⟨r, rfl, by omega, fun h => by omega, rfl⟩

set_option maxRecDepth 100000 in
set_option maxHeartbeats 1000000 in
theorem zzstrs_any (a : Option Addr) (n c used : Nat) (s : Nat → ByteArray) (w : World) (hs : Strs w a n s) (hu : used ≤ 1048577) (m : n ≤ maxLen) :
    Calls Try.prog 8 #[.int .i64 used, .slice a n c] w fun e w' => ∃ r : Nat, e = .returned (.int .i64 r) ∧ r ≤ 1048577 ∧ (r ≤ 1048576 → used ≤ 1048576 ∧ n ≤ 65536) ∧ w' = w := by
  unfold maxLen at m
  have HS := hid hs
  clear hs
  by_cases q0 : used > 1048576
  · go_enter Try.func8, Try.ntmps8
    go_wp2
    go_ret
    exact ⟨1048577, rfl, by omega, by omega, rfl⟩
  · have hw1 : IntKind.i64.wrap (1048576 - (used : Int)) = ((1048576 - used : Nat) : Int) := by rw [IntKind.wrap_i64]; omega
    obtain ⟨d, hd⟩ : ∃ d, d = 1048576 - used := ⟨_, rfl⟩
    obtain ⟨d8, hd8⟩ : ∃ d8, d8 = d / 16 := ⟨_, rfl⟩
    rw [← hd] at hw1
    have hq : IntKind.i64.wrap ((d : Int).tdiv 16) = (d8 : Int) := by
      have : (d : Int).tdiv 16 = (d8 : Int) := by rw [hd8]; rfl
      rw [this, IntKind.wrap_i64]; omega
    have hq' : (d : Int).tdiv 16 = (d8 : Int) := by rw [hd8]; rfl
    have hq64 : wrap64 (d8 : Int) = (d8 : Int) := by unfold wrap64; omega
    by_cases q1 : n > d8
    · have q1' : (d8 : Int) < (n : Int) := by omega
      have H := hid (And.intro hd hd8)
      clear hd hd8
      go_enter Try.func8, Try.ntmps8
      go_wp2
      go_ret
      exact ⟨1048577, rfl, by omega, by omega, rfl⟩
    · have q1' : ¬ (d8 : Int) < (n : Int) := by omega
      obtain ⟨r, hr⟩ : ∃ r, r = used + 16 * n := ⟨_, rfl⟩
      have hr6 : r ≤ 1048576 := by omega
      have hw2 : IntKind.i64.wrap (16 * (n : Int)) = 16 * (n : Int) := by rw [IntKind.wrap_i64]; omega
      have hw3 : IntKind.i64.wrap ((used : Int) + 16 * (n : Int)) = (r : Int) := by rw [IntKind.wrap_i64]; omega
      have hn6 : n ≤ 65536 := by omega
      have H := hid (And.intro hd (And.intro hd8 hr))
      clear hd hd8 hr
      go_enter Try.func8, Try.ntmps8
      go_wp2_with fail
      go_loopg [0, 5] n (fun n' z i wr => ∃ (k q : Nat), i = .int .i64 k ∧ z = .int .i64 q ∧ Hid (n' + k = n) ∧ q ≤ 1048576 ∧ wr = w)
      case atStart => exact ⟨0, r, rfl, rfl, hid (by omega), hr6, rfl⟩
      case round =>
        obtain ⟨k, q, rfl, rfl, hn, hq1, rfl⟩ := hrel
        by_cases hlt : k < n
        · obtain ⟨b, off, rfl, hc⟩ := HS.out.at hlt
          generalize s k = st at *
          have hlt' : (k : Int) < (n : Int) := by omega
          have hw4 : IntKind.i64.wrap (1048576 - (q : Int)) = 1048576 - (q : Int) := by rw [IntKind.wrap_i64]; omega
          by_cases e2 : (st.size : Int) > 1048576 - (q : Int)
          · go_wp2
            go_ret
            exact ⟨1048577, rfl, by omega, by omega, rfl⟩
          · obtain ⟨q2, hq2⟩ : ∃ x, x = q + st.size := ⟨_, rfl⟩
            have hw5 : IntKind.i64.wrap ((q : Int) + (st.size : Int)) = (q2 : Int) := by rw [IntKind.wrap_i64]; omega
            have hw6 : IntKind.i64.wrap ((k : Int) + 1) = ((k + 1 : Nat) : Int) := by rw [IntKind.wrap_i64]; omega
            have hq2h := hid hq2
            clear hq2
            go_wp2
            go_roundg (gk - 1)
            case measure => have := hn.out; omega
            case rel => exact ⟨k + 1, q2, rfl, rfl, hid (by have := hn.out; omega), by have := hq2h.out; omega, rfl⟩
        · have hlt' : ¬ (k : Int) < (n : Int) := by omega
          go_wp2
          go_ret
          exact ⟨q, rfl, by omega, by omega, rfl⟩
end Go.Proofs.Qxb6613837a
