import Derived.Test.Qxb6613837aG8
namespace Go.Proofs.Qxb6613837a
set_option linter.unusedVariables false

theorem sumTo_mul (n c : Nat) (f : Nat → Nat) : sumTo n (fun j => c * f j) = c * sumTo n f := by
  induction n with
  | zero => simp [sumTo]
  | succ n ih => simp only [sumTo]; rw [ih, Nat.mul_add]
theorem sumTo_lt {n : Nat} {f g : Nat → Nat} {i : Nat} (hi : i < n) (h : ∀ j, j < n → f j ≤ g j) (hs : f i < g i) : sumTo n f < sumTo n g := by
  induction n with
  | zero => omega
  | succ n ih =>
    simp only [sumTo]
    by_cases e : i = n
    · subst e
      have := sumTo_le (n := i) (f := f) (g := g) (fun j hj => h j (by omega))
      omega
    · have h1 := ih (by omega) (fun j hj => h j (by omega))
      have h2 := h n (by omega)
      omega

section
variable {k : Nat} {ap : Nat → Nat → Bool} {es : Es} {room : Nat → Nat} {tot : Nat}

theorem X_le (S : Sp k ap es) (h : FInv (headL es) (2 * es.length) (2 * k + 3) (2 * k + 2) (roomL es) room tot) {i j : Nat} (hi : i < k) (hj : j < k) : Fl es room i (k + j) ≤ 1 :=
  Fl_le S h fun n hn hu hv => by rcases S.kind n hn with ⟨a, b, c⟩ | ⟨a, j', b, c, d, e⟩ | ⟨j', a, b, c, d⟩ | ⟨a, b, c⟩ | ⟨a, b, c⟩ | ⟨j', a, b, c, d⟩ | ⟨a, b, c⟩ | ⟨a, b, c⟩ <;> omega
theorem a_le (S : Sp k ap es) (h : FInv (headL es) (2 * es.length) (2 * k + 3) (2 * k + 2) (roomL es) room tot) {i : Nat} (hi : i < k) : Fl es room (2 * k + 2) i ≤ 1 :=
  Fl_le S h fun n hn hu hv => by rcases S.kind n hn with ⟨a, b, c⟩ | ⟨a, j', b, c, d, e⟩ | ⟨j', a, b, c, d⟩ | ⟨a, b, c⟩ | ⟨a, b, c⟩ | ⟨j', a, b, c, d⟩ | ⟨a, b, c⟩ | ⟨a, b, c⟩ <;> omega
theorem b_le (S : Sp k ap es) (h : FInv (headL es) (2 * es.length) (2 * k + 3) (2 * k + 2) (roomL es) room tot) {j : Nat} (hj : j < k) : Fl es room (k + j) (2 * k + 3) ≤ 1 :=
  Fl_le S h fun n hn hu hv => by rcases S.kind n hn with ⟨a, b, c⟩ | ⟨a, j', b, c, d, e⟩ | ⟨j', a, b, c, d⟩ | ⟨a, b, c⟩ | ⟨a, b, c⟩ | ⟨j', a, b, c, d⟩ | ⟨a, b, c⟩ | ⟨a, b, c⟩ <;> omega
theorem os_le (S : Sp k ap es) (h : FInv (headL es) (2 * es.length) (2 * k + 3) (2 * k + 2) (roomL es) room tot) : Fl es room (2 * k + 2) (2 * k + 1) ≤ k :=
  Fl_le S h fun n hn hu hv => by rcases S.kind n hn with ⟨a, b, c⟩ | ⟨a, j', b, c, d, e⟩ | ⟨j', a, b, c, d⟩ | ⟨a, b, c⟩ | ⟨a, b, c⟩ | ⟨j', a, b, c, d⟩ | ⟨a, b, c⟩ | ⟨a, b, c⟩ <;> omega
theorem su_le (S : Sp k ap es) (h : FInv (headL es) (2 * es.length) (2 * k + 3) (2 * k + 2) (roomL es) room tot) : Fl es room (2 * k) (2 * k + 3) ≤ k :=
  Fl_le S h fun n hn hu hv => by rcases S.kind n hn with ⟨a, b, c⟩ | ⟨a, j', b, c, d, e⟩ | ⟨j', a, b, c, d⟩ | ⟨a, b, c⟩ | ⟨a, b, c⟩ | ⟨j', a, b, c, d⟩ | ⟨a, b, c⟩ | ⟨a, b, c⟩ <;> omega
theorem X_ap (S : Sp k ap es) {i j : Nat} (hi : i < k) (hj : j < k) (hx : 0 < Fl es room i (k + j)) : ap i j = true := by
  unfold Fl at hx
  obtain ⟨n, hn, hp⟩ := sumTo_pos hx
  by_cases e : (edgeAt es n).1 = i ∧ (edgeAt es n).2.1 = k + j
  · rcases S.kind n hn with ⟨a, b, c⟩ | ⟨a, j', b, c, d, e'⟩ | ⟨j', a, b, c, d⟩ | ⟨a, b, c⟩ | ⟨a, b, c⟩ | ⟨j', a, b, c, d⟩ | ⟨a, b, c⟩ | ⟨a, b, c⟩ <;> first | omega | skip
    have : j' = j := by omega
    rw [← this, ← e.1]
    exact e'
  · rw [if_neg e] at hp; omega

/-- A FLOW THAT FILLS ALL GIVES A PAIRING. -/
theorem full_pairs (S : Sp k ap es) (h : FInv (headL es) (2 * es.length) (2 * k + 3) (2 * k + 2) (roomL es) room tot) (ht : 2 * k ≤ tot) :
    (∀ i, i < k → (sumTo k fun j => Fl es room i (k + j)) = 1) ∧ (∀ j, j < k → (sumTo k fun i => Fl es room i (k + j)) = 1) := by
  have h1 := over_eq S h
  have h2 := under_eq S h
  have h3 := os_le S h
  have h4 := su_le S h
  have a1 := sumTo_full (n := k) (f := fun i => Fl es room (2 * k + 2) i) (fun i hi => a_le S h hi) (by omega)
  have b1 := sumTo_full (n := k) (f := fun j => Fl es room (k + j) (2 * k + 3)) (fun j hj => b_le S h hj) (by omega)
  exact ⟨fun i hi => (row_eq S h hi).trans (a1 i hi), fun j hj => (col_eq S h hj).trans (b1 j hj)⟩
end
end Go.Proofs.Qxb6613837a
