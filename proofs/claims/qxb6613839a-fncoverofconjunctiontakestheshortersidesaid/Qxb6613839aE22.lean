import Derived.Test.Qxb6613839aE16
namespace Go.Proofs.Qxb6613839a
open Go.RowKit
set_option linter.unusedVariables false
set_option linter.unusedSimpArgs false

set_option maxRecDepth 100000 in
set_option maxHeartbeats 1000000 in
theorem zz6_any (pa pb : ByteArray) (a0 a1 : Option Addr) (n0 c0 n1 c1 : Nat) (s0 s1 : Nat → ByteArray) (w : World) (h0 : Strs w a0 n0 s0) (h1 : Strs w a1 n1 s1) (m0 : n0 ≤ maxLen) (m1 : n1 ≤ maxLen) (ma : pa.size ≤ maxLen) (mb : pb.size ≤ maxLen) :
    Calls Try.prog 6 #[.string pa, .slice a0 n0 c0, .string pb, .slice a1 n1 c1] w fun e w' => ∃ r, e = .returned (.bool r) ∧ (r = true → pa.size ≤ 1048576 ∧ pb.size ≤ 1048576 ∧ Small s0 n0 ∧ Small s1 n1) ∧ Below w.heap.size w w' := by
  unfold maxLen at m0 m1 ma mb
  have H0 := hid h0
  have H1 := hid h1
  clear h0 h1
  by_cases q00 : pa.size > 1048576
  · go_enter Try.func6, Try.ntmps6
    go_wp2
    go_ret
    first | exact ⟨false, rfl, fun h => Bool.noConfusion h, Below.refl _ _⟩ | exact .inl ⟨rfl, Below.refl _ _⟩
  by_cases q0 : n0 > 1048576
  · go_enter Try.func6, Try.ntmps6
    go_wp2
    go_ret
    first | exact ⟨false, rfl, fun h => Bool.noConfusion h, Below.refl _ _⟩ | exact .inl ⟨rfl, Below.refl _ _⟩
  by_cases q01 : (pa.size : Int) + n0 > 1048576
  · go_enter Try.func6, Try.ntmps6
    go_wp2
    go_ret
    first | exact ⟨false, rfl, fun h => Bool.noConfusion h, Below.refl _ _⟩ | exact .inl ⟨rfl, Below.refl _ _⟩
  go_enter Try.func6, Try.ntmps6
  go_wp2_with fail
  go_loopw [9, 10] (fun z i wr => ∃ (k : Nat) (q : Int), k ≤ n0 ∧ Hid (Small s0 k) ∧ i = .int .i64 k ∧ z = .int .i64 q ∧ 0 ≤ q ∧ q ≤ 1048576 ∧ Below w.heap.size w wr) (fun _ i _ => n0 - (intOf i).toNat)
  case atStart => exact ⟨0, _, by omega, fun i hi => by omega, rfl, rfl, by omega, by omega, Below.refl _ _⟩
  case round =>
    obtain ⟨k, q, hk, HS, rfl, rfl, hq0, hq1, hbel⟩ := hrel
    by_cases hlt : k < n0
    · obtain ⟨b, off, rfl, hc⟩ := (H0.out.below hbel).at hlt
      have HSn := hid (fun h => HS.out.succ (s := s0) h)
      generalize s0 k = st at *
      by_cases e1 : st.size > 1048576
      · go_wp2
        go_ret
        first | exact ⟨false, rfl, fun h => Bool.noConfusion h, hbel⟩ | exact .inl ⟨rfl, hbel⟩
      by_cases e2 : q + st.size > 1048576
      · go_wp2
        go_ret
        first | exact ⟨false, rfl, fun h => Bool.noConfusion h, hbel⟩ | exact .inl ⟨rfl, hbel⟩
      go_wp2
      go_roundw
      case rel => exact ⟨k + 1, _, by omega, HSn.out e1, by go_num, rfl, by omega, by omega, hbel⟩
      case measure => simp [intOf]; omega
    have HS0 : Hid (Small s0 n0) := by
      have hk0 : k = n0 := by omega
      exact hk0 ▸ HS.out
    clear HS
    by_cases q10 : pb.size > 1048576
    · go_wp2
      go_ret
      first | exact ⟨false, rfl, fun h => Bool.noConfusion h, hbel⟩ | exact .inl ⟨rfl, hbel⟩
    by_cases q11 : q + pb.size > 1048576
    · go_wp2
      go_ret
      first | exact ⟨false, rfl, fun h => Bool.noConfusion h, hbel⟩ | exact .inl ⟨rfl, hbel⟩
    by_cases q1 : n1 > 1048576
    · go_wp2
      go_ret
      first | exact ⟨false, rfl, fun h => Bool.noConfusion h, hbel⟩ | exact .inl ⟨rfl, hbel⟩
    by_cases q2 : q + pb.size + n1 > 1048576
    · go_wp2
      go_ret
      first | exact ⟨false, rfl, fun h => Bool.noConfusion h, hbel⟩ | exact .inl ⟨rfl, hbel⟩
    go_wp2_with fail
    go_loopw [9, 11] (fun z i wr => ∃ (k : Nat) (q : Int), k ≤ n1 ∧ Hid (Small s1 k) ∧ i = .int .i64 k ∧ z = .int .i64 q ∧ 0 ≤ q ∧ q ≤ 1048576 ∧ Below w.heap.size w wr) (fun _ i _ => n1 - (intOf i).toNat)
    case atStart => exact ⟨0, _, by omega, fun i hi => by omega, rfl, rfl, by omega, by omega, hbel⟩
    case round =>
      clear hbel
      obtain ⟨k, q, hk, HS, rfl, rfl, hq0, hq1, hbel⟩ := hrel
      by_cases hlt : k < n1
      · obtain ⟨b, off, rfl, hc⟩ := (H1.out.below hbel).at hlt
        have HSn := hid (fun h => HS.out.succ (s := s1) h)
        generalize s1 k = st at *
        by_cases e1 : st.size > 1048576
        · go_wp2
          go_ret
          first | exact ⟨false, rfl, fun h => Bool.noConfusion h, hbel⟩ | exact .inl ⟨rfl, hbel⟩
        by_cases e2 : q + st.size > 1048576
        · go_wp2
          go_ret
          first | exact ⟨false, rfl, fun h => Bool.noConfusion h, hbel⟩ | exact .inl ⟨rfl, hbel⟩
        go_wp2
        go_roundw
        case rel => exact ⟨k + 1, _, by omega, HSn.out e1, by go_num, rfl, by omega, by omega, hbel⟩
        case measure => simp [intOf]; omega
      go_wp2_with fail
      go_ret
      have hk1 : k = n1 := by omega
      have hfin : pa.size ≤ 1048576 ∧ pb.size ≤ 1048576 ∧ Small s0 n0 ∧ Small s1 n1 := ⟨by omega, by omega, HS0.out, hk1 ▸ HS.out⟩
      first | exact ⟨true, rfl, fun _ => hfin, hbel⟩ | exact .inr ⟨rfl, hfin, hbel⟩
end Go.Proofs.Qxb6613839a
