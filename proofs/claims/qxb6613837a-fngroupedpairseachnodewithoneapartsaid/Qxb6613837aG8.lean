import Derived.Test.Qxb6613837aG7
namespace Go.Proofs.Qxb6613837a
set_option linter.unusedVariables false

theorem out_sum2 {es : Es} {room : Nat → Nat} {a k off z : Nat} (hz : z < off ∨ off + k ≤ z) (h : ∀ n, n < es.length → (edgeAt es n).1 = a → fl room n = 0 ∨ (∃ j, j < k ∧ (edgeAt es n).2.1 = off + j) ∨ (edgeAt es n).2.1 = z) : outflow es room a = (sumTo k fun j => Fl es room a (off + j)) + Fl es room a z := by
  unfold outflow Fl
  rw [sumTo_swap, ← sumTo_add]
  refine sumTo_congr fun n hn => ?_
  by_cases e : (edgeAt es n).1 = a
  · rw [if_pos e]
    rcases h n hn e with h0 | ⟨j, hj, hv⟩ | hv
    · rw [h0, sumTo_zero (fun j _ => by split <;> rfl)]; split <;> rfl
    · rw [sumTo_pick hj (fun j' _ hne => if_neg fun hh => hne (by omega)), if_pos ⟨e, hv⟩, if_neg (fun hh => by omega)]; rfl
    · rw [sumTo_zero (fun j hj => if_neg fun hh => by omega), if_pos ⟨e, hv⟩]; omega
  · rw [if_neg e, sumTo_zero (fun j _ => if_neg fun hh => e hh.1), if_neg (fun hh => e hh.1)]
theorem in_sum2 {es : Es} {room : Nat → Nat} {b k off z : Nat} (hz : z < off ∨ off + k ≤ z) (h : ∀ n, n < es.length → (edgeAt es n).2.1 = b → fl room n = 0 ∨ (∃ j, j < k ∧ (edgeAt es n).1 = off + j) ∨ (edgeAt es n).1 = z) : inflow es room b = (sumTo k fun j => Fl es room (off + j) b) + Fl es room z b := by
  unfold inflow Fl
  rw [sumTo_swap, ← sumTo_add]
  refine sumTo_congr fun n hn => ?_
  by_cases e : (edgeAt es n).2.1 = b
  · rw [if_pos e]
    rcases h n hn e with h0 | ⟨j, hj, hv⟩ | hv
    · rw [h0, sumTo_zero (fun j _ => by split <;> rfl)]; split <;> rfl
    · rw [sumTo_pick hj (fun j' _ hne => if_neg fun hh => hne (by omega)), if_pos ⟨hv, e⟩, if_neg (fun hh => by omega)]; rfl
    · rw [sumTo_zero (fun j hj => if_neg fun hh => by omega), if_pos ⟨hv, e⟩]; omega
  · rw [if_neg e, sumTo_zero (fun j _ => if_neg fun hh => e hh.2), if_neg (fun hh => e hh.2)]

section
variable {k : Nat} {ap : Nat → Nat → Bool} {es : Es} {room : Nat → Nat} {tot : Nat}

theorem fl_le (h : FInv (headL es) (2 * es.length) (2 * k + 3) (2 * k + 2) (roomL es) room tot) (n : Nat) : fl room n ≤ (edgeAt es n).2.2 := by
  have := cap_of h n; omega

theorem Fl_le (S : Sp k ap es) (h : FInv (headL es) (2 * es.length) (2 * k + 3) (2 * k + 2) (roomL es) room tot) {a b c : Nat} (hc : ∀ n, n < es.length → (edgeAt es n).1 = a → (edgeAt es n).2.1 = b → (edgeAt es n).2.2 ≤ c) : Fl es room a b ≤ c := by
  by_cases e : ∃ n, n < es.length ∧ (edgeAt es n).1 = a ∧ (edgeAt es n).2.1 = b
  · obtain ⟨n, hn, h1, h2⟩ := e
    have e3 : edgeAt es n = (a, b, (edgeAt es n).2.2) := by rw [← h1, ← h2]
    rw [Fl_edge S room hn e3]
    exact Nat.le_trans (fl_le h n) (hc n hn h1 h2)
  · unfold Fl
    rw [sumTo_zero (fun n hn => if_neg fun hh => e ⟨n, hn, hh⟩)]
    exact Nat.zero_le _

theorem row_eq (S : Sp k ap es) (h : FInv (headL es) (2 * es.length) (2 * k + 3) (2 * k + 2) (roomL es) room tot) {i : Nat} (hi : i < k) : (sumTo k fun j => Fl es room i (k + j)) = Fl es room (2 * k + 2) i := by
  have hc := flow_cons h i
  rw [if_neg (by omega), if_neg (by omega)] at hc
  rw [out_sum (k := k) (off := k) (fun n hn hu => ?_), in_sum (k := 1) (off := 2 * k + 2) (fun n hn hv => ?_)] at hc
  · simp only [sumTo, Nat.add_zero, Nat.zero_add] at hc
    exact hc.symm
  · have hle := fl_le h n
    rcases S.kind n hn with ⟨a, b, c⟩ | ⟨a, j, b, c, d, e⟩ | ⟨j, a, b, c, d⟩ | ⟨a, b, c⟩ | ⟨a, b, c⟩ | ⟨j, a, b, c, d⟩ | ⟨a, b, c⟩ | ⟨a, b, c⟩ <;> first | (left; omega) | (right; exact ⟨0, by omega, by omega⟩) | omega
  · rcases S.kind n hn with ⟨a, b, c⟩ | ⟨a, j, b, c, d, e⟩ | ⟨j, a, b, c, d⟩ | ⟨a, b, c⟩ | ⟨a, b, c⟩ | ⟨j, a, b, c, d⟩ | ⟨a, b, c⟩ | ⟨a, b, c⟩ <;> first | (right; exact ⟨j, by omega, by omega⟩) | omega
theorem col_eq (S : Sp k ap es) (h : FInv (headL es) (2 * es.length) (2 * k + 3) (2 * k + 2) (roomL es) room tot) {j : Nat} (hj : j < k) : (sumTo k fun i => Fl es room i (k + j)) = Fl es room (k + j) (2 * k + 3) := by
  have hc := flow_cons h (k + j)
  rw [if_neg (by omega), if_neg (by omega)] at hc
  rw [out_sum (k := 1) (off := 2 * k + 3) (fun n hn hu => ?_), in_sum (k := k) (off := 0) (fun n hn hv => ?_)] at hc
  · simp only [sumTo, Nat.add_zero, Nat.zero_add] at hc
    exact hc
  · rcases S.kind n hn with ⟨a, b, c⟩ | ⟨a, j', b, c, d, e⟩ | ⟨j', a, b, c, d⟩ | ⟨a, b, c⟩ | ⟨a, b, c⟩ | ⟨j', a, b, c, d⟩ | ⟨a, b, c⟩ | ⟨a, b, c⟩ <;> first | (right; exact ⟨_, a, (Nat.zero_add _).symm⟩) | omega
  · have hle := fl_le h n
    rcases S.kind n hn with ⟨a, b, c⟩ | ⟨a, j', b, c, d, e⟩ | ⟨j', a, b, c, d⟩ | ⟨a, b, c⟩ | ⟨a, b, c⟩ | ⟨j', a, b, c, d⟩ | ⟨a, b, c⟩ | ⟨a, b, c⟩ <;> first | (left; omega) | (right; exact ⟨0, by omega, by omega⟩) | omega
theorem over_eq (S : Sp k ap es) (h : FInv (headL es) (2 * es.length) (2 * k + 3) (2 * k + 2) (roomL es) room tot) : tot = (sumTo k fun i => Fl es room (2 * k + 2) i) + Fl es room (2 * k + 2) (2 * k + 1) := by
  have hc := flow_cons h (2 * k + 2)
  rw [if_pos rfl, if_neg (by omega)] at hc
  rw [out_sum2 (k := k) (off := 0) (z := 2 * k + 1) (by omega) (fun n hn hu => ?_), in_sum (k := 0) (off := 0) (fun n hn hv => ?_)] at hc
  · simp only [sumTo, Nat.add_zero, Nat.zero_add] at hc
    exact hc
  · rcases S.kind n hn with ⟨a, b, c⟩ | ⟨a, j', b, c, d, e⟩ | ⟨j', a, b, c, d⟩ | ⟨a, b, c⟩ | ⟨a, b, c⟩ | ⟨j', a, b, c, d⟩ | ⟨a, b, c⟩ | ⟨a, b, c⟩ <;> omega
  · rcases S.kind n hn with ⟨a, b, c⟩ | ⟨a, j', b, c, d, e⟩ | ⟨j', a, b, c, d⟩ | ⟨a, b, c⟩ | ⟨a, b, c⟩ | ⟨j', a, b, c, d⟩ | ⟨a, b, c⟩ | ⟨a, b, c⟩ <;> first | (right; left; exact ⟨_, b, (Nat.zero_add _).symm⟩) | (right; right; exact b) | omega
theorem under_eq (S : Sp k ap es) (h : FInv (headL es) (2 * es.length) (2 * k + 3) (2 * k + 2) (roomL es) room tot) : tot = (sumTo k fun j => Fl es room (k + j) (2 * k + 3)) + Fl es room (2 * k) (2 * k + 3) := by
  have hc := flow_cons h (2 * k + 3)
  rw [if_neg (by omega), if_pos rfl] at hc
  rw [in_sum2 (k := k) (off := k) (z := 2 * k) (by omega) (fun n hn hu => ?_), out_sum (k := 0) (off := 0) (fun n hn hv => ?_)] at hc
  · simp only [sumTo, Nat.add_zero, Nat.zero_add] at hc
    exact hc.symm
  · rcases S.kind n hn with ⟨a, b, c⟩ | ⟨a, j', b, c, d, e⟩ | ⟨j', a, b, c, d⟩ | ⟨a, b, c⟩ | ⟨a, b, c⟩ | ⟨j', a, b, c, d⟩ | ⟨a, b, c⟩ | ⟨a, b, c⟩ <;> omega
  · rcases S.kind n hn with ⟨a, b, c⟩ | ⟨a, j', b, c, d, e⟩ | ⟨j', a, b, c, d⟩ | ⟨a, b, c⟩ | ⟨a, b, c⟩ | ⟨j', a, b, c, d⟩ | ⟨a, b, c⟩ | ⟨a, b, c⟩ <;> first | (right; left; exact ⟨j', a, b⟩) | (right; right; exact a) | omega
end
end Go.Proofs.Qxb6613837a
