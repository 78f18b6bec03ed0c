import Derived.Test.Qxb6613837aG9
namespace Go.Proofs.Qxb6613837a
set_option linter.unusedVariables false

section
variable {k : Nat} {ap : Nat → Nat → Bool} {es : Es} {room : Nat → Nat} {tot : Nat} {lv : Nat → Int} {V : Nat}

/-- At the end, with something left to send: a supplier in reach that sends nothing. -/
theorem short_some (S : Sp k ap es) (h : FInv (headL es) (2 * es.length) (2 * k + 3) (2 * k + 2) (roomL es) room tot) (B : BI V (2 * es.length) (headL es) room (2 * k + 2) (fun _ => False) lv []) (hu : lv (2 * k + 3) < 0) (ht : tot < 2 * k) :
    ∃ i, i < k ∧ 0 ≤ lv i ∧ Fl es room (2 * k + 2) i = 0 := by
  have hk : 0 < k := by omega
  have hover : 0 ≤ lv (2 * k + 2) := by rw [B.root]; exact Int.le_refl _
  -- over -> sink is full
  have hos : Fl es room (2 * k + 2) (2 * k + 1) = k := by
    have hle := os_le S h
    by_cases e : Fl es room (2 * k + 2) (2 * k + 1) = k
    · exact e
    · exfalso
      obtain ⟨n, hn, en⟩ := S.hasOS hk
      have f1 := Fl_edge S room hn en
      have hsink : 0 ≤ lv (2 * k + 1) := by
        have := reach_fwd B h hn (by rw [en]; exact hover) (by rw [en]; show fl room n < k; omega)
        rw [en] at this; exact this
      have csink := flow_cons h (2 * k + 1)
      rw [if_neg (by omega), if_neg (by omega)] at csink
      rw [out_sum (k := 1) (off := 2 * k) (fun n hn hu => ?_), in_sum (k := 1) (off := 2 * k + 2) (fun n hn hv => ?_)] at csink
      · simp only [sumTo, Nat.add_zero, Nat.zero_add] at csink
        obtain ⟨n2, hn2, en2⟩ := S.hasSS
        have f2 := Fl_edge S room hn2 en2
        have hsource : 0 ≤ lv (2 * k) := by
          have := reach_fwd B h hn2 (by rw [en2]; exact hsink) (by rw [en2]; show fl room n2 < k; omega)
          rw [en2] at this; exact this
        have csource := flow_cons h (2 * k)
        rw [if_neg (by omega), if_neg (by omega)] at csource
        rw [out_sum (k := 1) (off := 2 * k + 3) (fun n hn hu => ?_), in_sum (k := 1) (off := 2 * k + 1) (fun n hn hv => ?_)] at csource
        · simp only [sumTo, Nat.add_zero, Nat.zero_add] at csource
          obtain ⟨n3, hn3, en3⟩ := S.hasSU hk
          have f3 := Fl_edge S room hn3 en3
          have := reach_fwd B h hn3 (by rw [en3]; exact hsource) (by rw [en3]; show fl room n3 < k; omega)
          rw [en3] at this
          have h9 : 0 ≤ lv (2 * k + 3) := this
          omega
        · rcases S.kind n hn with ⟨a, b, c⟩ | ⟨a, j', b, c, d, e⟩ | ⟨j', a, b, c, d⟩ | ⟨a, b, c⟩ | ⟨a, b, c⟩ | ⟨j', a, b, c, d⟩ | ⟨a, b, c⟩ | ⟨a, b, c⟩ <;> first | (right; exact ⟨0, by omega, by omega⟩) | omega
        · have hle := fl_le h n
          rcases S.kind n hn with ⟨a, b, c⟩ | ⟨a, j', b, c, d, e⟩ | ⟨j', a, b, c, d⟩ | ⟨a, b, c⟩ | ⟨a, b, c⟩ | ⟨j', a, b, c, d⟩ | ⟨a, b, c⟩ | ⟨a, b, c⟩ <;> first | (left; omega) | (right; exact ⟨0, by omega, by omega⟩) | omega
      · have hle := fl_le h n
        rcases S.kind n hn with ⟨a, b, c⟩ | ⟨a, j', b, c, d, e⟩ | ⟨j', a, b, c, d⟩ | ⟨a, b, c⟩ | ⟨a, b, c⟩ | ⟨j', a, b, c, d⟩ | ⟨a, b, c⟩ | ⟨a, b, c⟩ <;> first | (left; omega) | (right; exact ⟨0, by omega, by omega⟩) | omega
      · rcases S.kind n hn with ⟨a, b, c⟩ | ⟨a, j', b, c, d, e⟩ | ⟨j', a, b, c, d⟩ | ⟨a, b, c⟩ | ⟨a, b, c⟩ | ⟨j', a, b, c, d⟩ | ⟨a, b, c⟩ | ⟨a, b, c⟩ <;> first | (right; exact ⟨0, by omega, by omega⟩) | omega
  have ho := over_eq S h
  -- so some supplier has room
  have : ∃ i, i < k ∧ Fl es room (2 * k + 2) i = 0 := by
    apply Classical.byContradiction
    intro hno
    have : sumTo k (fun _ => 1) ≤ sumTo k fun i => Fl es room (2 * k + 2) i := sumTo_le fun i hi => by
      have h0 : Fl es room (2 * k + 2) i ≠ 0 := fun e => hno ⟨i, hi, e⟩
      show 1 ≤ Fl es room (2 * k + 2) i
      omega
    rw [sumTo_const] at this
    omega
  obtain ⟨i, hi, h0⟩ := this
  obtain ⟨n, hn, en⟩ := S.hasO i hi
  have f1 := Fl_edge S room hn en
  have := reach_fwd B h hn (by rw [en]; exact hover) (by rw [en]; show fl room n < 1; omega)
  rw [en] at this
  exact ⟨i, hi, this, h0⟩

/-- A supplier in reach: every consumer that it may send to is in reach. -/
theorem nbr_reach (S : Sp k ap es) (h : FInv (headL es) (2 * es.length) (2 * k + 3) (2 * k + 2) (roomL es) room tot) (B : BI V (2 * es.length) (headL es) room (2 * k + 2) (fun _ => False) lv []) {i j : Nat} (hi : i < k) (hj : j < k) (hr : 0 ≤ lv i) (ha : ap i j = true) : 0 ≤ lv (k + j) := by
  obtain ⟨n, hn, en⟩ := S.hasA i j hi hj ha
  have f1 := Fl_edge S room hn en
  by_cases e : fl room n < 1
  · have := reach_fwd B h hn (by rw [en]; exact hr) (by rw [en]; exact e)
    rw [en] at this; exact this
  · have hrow := row_eq S h hi
    have hx1 : Fl es room i (k + j) ≤ sumTo k fun j => Fl es room i (k + j) := le_sumTo (f := fun j => Fl es room i (k + j)) hj
    obtain ⟨n2, hn2, h2⟩ := reach_from B h hr (by omega)
    rcases h2 with ⟨hv, hc, hu⟩ | ⟨hu, hc, hv⟩
    · exfalso
      rcases S.kind n2 hn2 with ⟨a, b, c⟩ | ⟨a, j', b, c, d, e'⟩ | ⟨j', a, b, c, d⟩ | ⟨a, b, c⟩ | ⟨a, b, c⟩ | ⟨j', a, b, c, d⟩ | ⟨a, b, c⟩ | ⟨a, b, c⟩ <;> first | omega | skip
      have e2 : edgeAt es n2 = (2 * k + 2, i, 1) := by rw [← a, ← hv, ← c]
      have f2 := Fl_edge S room hn2 e2
      omega
    · rcases S.kind n2 hn2 with ⟨a, b, c⟩ | ⟨a, j', b, c, d, e'⟩ | ⟨j', a, b, c, d⟩ | ⟨a, b, c⟩ | ⟨a, b, c⟩ | ⟨j', a, b, c, d⟩ | ⟨a, b, c⟩ | ⟨a, b, c⟩ <;> first | omega | skip
      have e2 : edgeAt es n2 = (i, k + j', 1) := by rw [← hu, ← c, ← d]
      have f2 := Fl_edge S room hn2 e2
      rw [c] at hv
      by_cases ej : j' = j
      · rw [ej] at hv; exact hv
      · exfalso
        have hle := a_le S h hi
        have two := sumTo_one (n := k) (i := j) (f := fun j => Fl es room i (k + j)) (g := fun x => if x = j then 0 else Fl es room i (k + x)) hj (fun x _ hx => by simp only [hx, if_false])
        have three : Fl es room i (k + j') ≤ sumTo k fun x => if x = j then 0 else Fl es room i (k + x) := by
          have := le_sumTo (f := fun x => if x = j then 0 else Fl es room i (k + x)) b
          simp only [ej, if_false] at this
          exact this
        simp only [if_true] at two
        omega
end
end Go.Proofs.Qxb6613837a
