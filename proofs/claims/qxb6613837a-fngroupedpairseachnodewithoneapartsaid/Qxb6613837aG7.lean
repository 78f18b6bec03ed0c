import Derived.Test.Qxb6613837aG6
namespace Go.Proofs.Qxb6613837a
set_option linter.unusedVariables false

theorem sumTo_swap (n k : Nat) (g : Nat → Nat → Nat) : sumTo n (fun a => sumTo k (fun j => g a j)) = sumTo k (fun j => sumTo n (fun a => g a j)) := by
  induction n with
  | zero => simp only [sumTo]; rw [sumTo_const]; omega
  | succ n ih => simp only [sumTo]; rw [ih, ← sumTo_add]
theorem sumTo_zero {n : Nat} {f : Nat → Nat} (h : ∀ i, i < n → f i = 0) : sumTo n f = 0 := by
  rw [sumTo_congr (g := fun _ => 0) h, sumTo_const]; omega
theorem sumTo_pick {n : Nat} {f : Nat → Nat} {i : Nat} (hi : i < n) (h : ∀ j, j < n → j ≠ i → f j = 0) : sumTo n f = f i := by
  have := sumTo_one (n := n) (i := i) (f := f) (g := fun _ => 0) hi h
  rw [sumTo_const] at this
  omega
theorem sumTo_lt_one {n : Nat} {f : Nat → Nat} {i : Nat} (hi : i < n) (h1 : ∀ j, j < n → f j ≤ 1) (h0 : f i = 0) : sumTo n f + 1 ≤ n := by
  have a := sumTo_one (n := n) (i := i) (f := f) (g := fun j => if j = i then 1 else f j) hi (fun j _ hj => by simp only [hj, if_false])
  simp only [if_true] at a
  have b := sumTo_le (n := n) (f := fun j => if j = i then 1 else f j) (g := fun _ => 1) (fun j hj => by
    show (if j = i then 1 else f j) ≤ 1
    split
    · exact Nat.le_refl _
    · exact h1 j hj)
  rw [sumTo_const] at b
  omega
theorem sumTo_pos {n : Nat} {f : Nat → Nat} (h : 0 < sumTo n f) : ∃ i, i < n ∧ 0 < f i := by
  induction n with
  | zero => simp [sumTo] at h
  | succ n ih =>
    simp only [sumTo] at h
    by_cases e : 0 < f n
    · exact ⟨n, by omega, e⟩
    · obtain ⟨i, h1, h2⟩ := ih (by omega)
      exact ⟨i, by omega, h2⟩
theorem sumTo_full {n : Nat} {f : Nat → Nat} (h1 : ∀ j, j < n → f j ≤ 1) (h : n ≤ sumTo n f) : ∀ j, j < n → f j = 1 := by
  intro j hj
  by_cases e : f j = 0
  · have := sumTo_lt_one hj h1 e
    omega
  · have := h1 j hj
    omega

/-- The network of a pairing: k nodes, 'ap i j': node j may take node i's. -/
structure Sp (k : Nat) (ap : Nat → Nat → Bool) (es : Es) : Prop where
  kind : ∀ n, n < es.length → ((edgeAt es n).1 = 2 * k ∧ (edgeAt es n).2.1 < k ∧ (edgeAt es n).2.2 = 0) ∨ ((edgeAt es n).1 < k ∧ ∃ j, j < k ∧ (edgeAt es n).2.1 = k + j ∧ (edgeAt es n).2.2 = 1 ∧ ap (edgeAt es n).1 j = true) ∨
    (∃ j, j < k ∧ (edgeAt es n).1 = k + j ∧ (edgeAt es n).2.1 = 2 * k + 1 ∧ (edgeAt es n).2.2 = 0) ∨ ((edgeAt es n).1 = 2 * k + 1 ∧ (edgeAt es n).2.1 = 2 * k ∧ (edgeAt es n).2.2 = k) ∨
    ((edgeAt es n).1 = 2 * k + 2 ∧ (edgeAt es n).2.1 < k ∧ (edgeAt es n).2.2 = 1) ∨ (∃ j, j < k ∧ (edgeAt es n).1 = k + j ∧ (edgeAt es n).2.1 = 2 * k + 3 ∧ (edgeAt es n).2.2 = 1) ∨
    ((edgeAt es n).1 = 2 * k ∧ (edgeAt es n).2.1 = 2 * k + 3 ∧ (edgeAt es n).2.2 = k) ∨ ((edgeAt es n).1 = 2 * k + 2 ∧ (edgeAt es n).2.1 = 2 * k + 1 ∧ (edgeAt es n).2.2 = k)
  uniq : ∀ n n', n < es.length → n' < es.length → (edgeAt es n).1 = (edgeAt es n').1 → (edgeAt es n).2.1 = (edgeAt es n').2.1 → n = n'
  hasA : ∀ i j, i < k → j < k → ap i j = true → ∃ n, n < es.length ∧ edgeAt es n = (i, k + j, 1)
  hasO : ∀ i, i < k → ∃ n, n < es.length ∧ edgeAt es n = (2 * k + 2, i, 1)
  hasU : ∀ j, j < k → ∃ n, n < es.length ∧ edgeAt es n = (k + j, 2 * k + 3, 1)
  hasSS : ∃ n, n < es.length ∧ edgeAt es n = (2 * k + 1, 2 * k, k)
  hasSU : 0 < k → ∃ n, n < es.length ∧ edgeAt es n = (2 * k, 2 * k + 3, k)
  hasOS : 0 < k → ∃ n, n < es.length ∧ edgeAt es n = (2 * k + 2, 2 * k + 1, k)

/-- What flows from a to b. -/
def Fl (es : Es) (room : Nat → Nat) (a b : Nat) : Nat := sumTo es.length fun n => if (edgeAt es n).1 = a ∧ (edgeAt es n).2.1 = b then fl room n else 0

theorem Fl_edge {k : Nat} {ap : Nat → Nat → Bool} {es : Es} (h : Sp k ap es) (room : Nat → Nat) {n a b c : Nat} (hn : n < es.length) (e : edgeAt es n = (a, b, c)) : Fl es room a b = fl room n := by
  unfold Fl
  rw [sumTo_pick hn (fun j hj hne => if_neg fun hh => hne (h.uniq j n hj hn (by rw [hh.1, e]) (by rw [hh.2, e])))]
  rw [if_pos (by rw [e]; exact ⟨rfl, rfl⟩)]

/-- Sums over the edges out of a vertex whose edges all lead to k + j. -/
theorem out_sum {es : Es} {room : Nat → Nat} {a k off : Nat} (h : ∀ n, n < es.length → (edgeAt es n).1 = a → fl room n = 0 ∨ ∃ j, j < k ∧ (edgeAt es n).2.1 = off + j) : outflow es room a = sumTo k fun j => Fl es room a (off + j) := by
  unfold outflow Fl
  rw [sumTo_swap]
  refine sumTo_congr fun n hn => ?_
  by_cases e : (edgeAt es n).1 = a
  · rw [if_pos e]
    rcases h n hn e with h0 | ⟨j, hj, hv⟩
    · rw [h0, sumTo_zero (fun j _ => by split <;> rfl)]
    · rw [sumTo_pick hj (fun j' _ hne => if_neg fun hh => hne (by omega)), if_pos ⟨e, hv⟩]
  · rw [if_neg e, sumTo_zero (fun j _ => if_neg fun hh => e hh.1)]
theorem in_sum {es : Es} {room : Nat → Nat} {b k off : Nat} (h : ∀ n, n < es.length → (edgeAt es n).2.1 = b → fl room n = 0 ∨ ∃ j, j < k ∧ (edgeAt es n).1 = off + j) : inflow es room b = sumTo k fun j => Fl es room (off + j) b := by
  unfold inflow Fl
  rw [sumTo_swap]
  refine sumTo_congr fun n hn => ?_
  by_cases e : (edgeAt es n).2.1 = b
  · rw [if_pos e]
    rcases h n hn e with h0 | ⟨j, hj, hv⟩
    · rw [h0, sumTo_zero (fun j _ => by split <;> rfl)]
    · rw [sumTo_pick hj (fun j' _ hne => if_neg fun hh => hne (by omega)), if_pos ⟨hv, e⟩]
  · rw [if_neg e, sumTo_zero (fun j _ => if_neg fun hh => e hh.2)]
end Go.Proofs.Qxb6613837a
