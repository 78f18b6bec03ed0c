import Derived.Test.Qxb6613837aG5
namespace Go.Proofs.Qxb6613837a
set_option linter.unusedVariables false

/-- What edge number i carries. -/
def fl (room : Nat → Nat) (i : Nat) : Nat := room (2 * i + 1)
def inflow (es : Es) (room : Nat → Nat) (x : Nat) : Nat := sumTo es.length fun i => if (edgeAt es i).2.1 = x then fl room i else 0
def outflow (es : Es) (room : Nat → Nat) (x : Nat) : Nat := sumTo es.length fun i => if (edgeAt es i).1 = x then fl room i else 0

theorem sumTo_two (n : Nat) (f : Nat → Nat) : sumTo (2 * n) f = sumTo n fun i => f (2 * i) + f (2 * i + 1) := by
  induction n with
  | zero => rfl
  | succ n ih =>
    rw [show 2 * (n + 1) = 2 * n + 1 + 1 by omega]
    simp only [sumTo]
    rw [ih]
    omega

theorem headL_even (es : Es) (i : Nat) : headL es (2 * i) = (edgeAt es i).2.1 := by unfold headL; rw [if_pos (by omega), show 2 * i / 2 = i by omega]
theorem headL_odd (es : Es) (i : Nat) : headL es (2 * i + 1) = (edgeAt es i).1 := by unfold headL; rw [if_neg (by omega), show (2 * i + 1) / 2 = i by omega]
theorem roomL_even (es : Es) (i : Nat) : roomL es (2 * i) = (edgeAt es i).2.2 := by unfold roomL; rw [if_pos (by omega), show 2 * i / 2 = i by omega]
theorem roomL_odd (es : Es) (i : Nat) : roomL es (2 * i + 1) = 0 := by unfold roomL; rw [if_neg (by omega)]

theorem Dsum_es (es : Es) (room : Nat → Nat) (x : Nat) : Dsum (headL es) (2 * es.length) room x = sumTo es.length fun i => (if (edgeAt es i).1 = x then room (2 * i) else 0) + (if (edgeAt es i).2.1 = x then room (2 * i + 1) else 0) := by
  unfold Dsum
  rw [sumTo_two]
  refine sumTo_congr fun i _ => ?_
  rw [mate_even, mate_odd, headL_odd, headL_even]

section
variable {es : Es} {s t : Nat} {room : Nat → Nat} {tot : Nat}

theorem cap_of (h : FInv (headL es) (2 * es.length) t s (roomL es) room tot) (i : Nat) : room (2 * i) + fl room i = (edgeAt es i).2.2 := by
  have := h.pair (2 * i)
  rw [mate_even, roomL_even, roomL_odd] at this
  exact this

theorem flow_cons (h : FInv (headL es) (2 * es.length) t s (roomL es) room tot) (x : Nat) : inflow es room x + (if x = s then tot else 0) = outflow es room x + (if x = t then tot else 0) := by
  have hc := h.cons x
  rw [Dsum_es, Dsum_es, sumTo_add, sumTo_add] at hc
  have e0 : (sumTo es.length fun i => if (edgeAt es i).2.1 = x then roomL es (2 * i + 1) else 0) = 0 := by
    rw [sumTo_congr (g := fun _ => 0) (fun i _ => by rw [roomL_odd]; split <;> rfl), sumTo_const]
    omega
  have e1 : (sumTo es.length fun i => if (edgeAt es i).1 = x then roomL es (2 * i) else 0) = (sumTo es.length fun i => if (edgeAt es i).1 = x then room (2 * i) else 0) + outflow es room x := by
    unfold outflow
    rw [← sumTo_add]
    refine sumTo_congr fun i _ => ?_
    split
    · rw [roomL_even]; exact (cap_of h i).symm
    · rfl
  rw [e0, e1] at hc
  have e2 : (sumTo es.length fun i => if (edgeAt es i).2.1 = x then room (2 * i + 1) else 0) = inflow es room x := rfl
  rw [e2] at hc
  omega

/-- The vertices that are in reach at the end. -/
theorem reach_fwd {V : Nat} {lv : Nat → Int} (B : BI V (2 * es.length) (headL es) room s (fun _ => False) lv []) (h : FInv (headL es) (2 * es.length) t s (roomL es) room tot) {i : Nat} (hi : i < es.length)
    (hu : 0 ≤ lv (edgeAt es i).1) (hc : fl room i < (edgeAt es i).2.2) : 0 ≤ lv (edgeAt es i).2.1 := by
  have := B.closed (2 * i) (by omega) (by have := cap_of h i; omega)
  rw [mate_even, headL_odd, headL_even] at this
  exact this hu (by simp) (fun h => h)
theorem reach_bwd {V : Nat} {lv : Nat → Int} (B : BI V (2 * es.length) (headL es) room s (fun _ => False) lv []) {i : Nat} (hi : i < es.length)
    (hv : 0 ≤ lv (edgeAt es i).2.1) (hc : 0 < fl room i) : 0 ≤ lv (edgeAt es i).1 := by
  have := B.closed (2 * i + 1) (by omega) hc
  rw [mate_odd, headL_odd, headL_even] at this
  exact this hv (by simp) (fun h => h)
theorem reach_from {V : Nat} {lv : Nat → Int} (B : BI V (2 * es.length) (headL es) room s (fun _ => False) lv []) (h : FInv (headL es) (2 * es.length) t s (roomL es) room tot) {v : Nat} (hv : 0 ≤ lv v) (hs : v ≠ s) :
    ∃ i, i < es.length ∧ (((edgeAt es i).2.1 = v ∧ fl room i < (edgeAt es i).2.2 ∧ 0 ≤ lv (edgeAt es i).1) ∨ ((edgeAt es i).1 = v ∧ 0 < fl room i ∧ 0 ≤ lv (edgeAt es i).2.1)) := by
  rcases B.pred v hv with h0 | ⟨e, a1, a2, a3, a4, _⟩
  · exact absurd h0 hs
  · rcases Nat.mod_two_eq_zero_or_one e with he | he
    · have e2 : e = 2 * (e / 2) := by omega
      rw [e2] at a2 a3 a4
      rw [headL_even] at a2
      rw [mate_even, headL_odd] at a4
      exact ⟨e / 2, by omega, .inl ⟨a2, by have := cap_of h (e / 2); omega, a4⟩⟩
    · have e2 : e = 2 * (e / 2) + 1 := by omega
      rw [e2] at a2 a3 a4
      rw [headL_odd] at a2
      rw [mate_odd, headL_even] at a4
      exact ⟨e / 2, by omega, .inr ⟨a2, a3, a4⟩⟩
end
end Go.Proofs.Qxb6613837a
