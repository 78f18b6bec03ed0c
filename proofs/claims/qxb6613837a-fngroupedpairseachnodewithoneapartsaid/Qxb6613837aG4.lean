import Derived.Test.Qxb6613837aG3
namespace Go.Proofs.Qxb6613837a
set_option linter.unusedVariables false

/-- The greatest int. -/
abbrev maxI : Nat := 9223372036854775807

/-- The pushes of one phase: the sum sent, and the rooms. -/
def innerF (out : Nat → List Nat) (head : Nat → Nat) (level : Nat → Int) (t V s : Nat) : Nat → (Nat → Nat) → (Nat → Nat) → Nat → Nat × (Nat → Nat)
  | 0, room, _, tot => (tot, room)
  | c + 1, room, next, tot =>
    if (pushF out head level t V s maxI room next).1 = 0 then (tot, room)
    else innerF out head level t V s c (pushF out head level t V s maxI room next).2.1 (pushF out head level t V s maxI room next).2.2 (tot + (pushF out head level t V s maxI room next).1)

/-- The phases. -/
def outerF (out : Nat → List Nat) (head : Nat → Nat) (m t V s : Nat) : Nat → (Nat → Nat) → Nat → Nat × (Nat → Nat)
  | 0, room, tot => (tot, room)
  | c + 1, room, tot =>
    if 0 ≤ levelsF out head room V s t then
      outerF out head m t V s c (innerF out head (levelsF out head room V s) t V s (Dsum head m room s + 1) room (fun _ => 0) tot).2 (innerF out head (levelsF out head room V s) t V s (Dsum head m room s + 1) room (fun _ => 0) tot).1
    else (tot, room)

/-- What a flow keeps. -/
structure FInv (head : Nat → Nat) (m t s : Nat) (room0 room : Nat → Nat) (tot : Nat) : Prop where
  pair : ∀ e, room e + room (mate e) = room0 e + room0 (mate e)
  cons : ∀ x, Dsum head m room x + (if x = s then tot else 0) = Dsum head m room0 x + (if x = t then tot else 0)

section
variable {V m : Nat} {out : Nat → List Nat} {head : Nat → Nat} {s t : Nat}

theorem FInv.push {level : Nat → Int} (hw : Wf V m out head) {room0 room next : Nat → Nat} {tot : Nat} (h : FInv head m t s room0 room tot) (d limit : Nat) :
    FInv head m t s room0 (pushF out head level t d s limit room next).2.1 (tot + (pushF out head level t d s limit room next).1) := by
  have R := push_ok (t := t) (level := level) hw d s limit room next
  generalize pushF out head level t d s limit room next = r at *
  refine ⟨fun e => (R.pair e).trans (h.pair e), fun x => ?_⟩
  have h1 := R.cons x
  have h2 := h.cons x
  have a1 : (if x = s then tot + r.1 else 0) = (if x = s then tot else 0) + (if x = s then r.1 else 0) := by split <;> rfl
  have a2 : (if x = t then tot + r.1 else 0) = (if x = t then tot else 0) + (if x = t then r.1 else 0) := by split <;> rfl
  rw [a1, a2]
  omega

theorem inner_ok {level : Nat → Int} (hw : Wf V m out head) {room0 : Nat → Nat} : ∀ (c : Nat) (room next : Nat → Nat) (tot : Nat), FInv head m t s room0 room tot →
    FInv head m t s room0 (innerF out head level t V s c room next tot).2 (innerF out head level t V s c room next tot).1 ∧ tot ≤ (innerF out head level t V s c room next tot).1 := by
  intro c
  induction c with
  | zero => intro room next tot h; exact ⟨h, Nat.le_refl _⟩
  | succ c ih =>
    intro room next tot h
    unfold innerF
    split
    · exact ⟨h, Nat.le_refl _⟩
    · have := ih _ (pushF out head level t V s maxI room next).2.2 _ (h.push (level := level) (next := next) hw V maxI)
      exact ⟨this.1, by omega⟩

/-- A phase that starts with t in reach sends something. -/
theorem inner_some (hw : Wf V m out head) (hs : s < V) (c : Nat) {room0 room : Nat → Nat} {tot : Nat} (h : FInv head m t s room0 room tot) (ht : 0 ≤ levelsF out head room V s t) :
    tot < (innerF out head (levelsF out head room V s) t V s (c + 1) room (fun _ => 0) tot).1 := by
  have hp := first_push (t := t) (room := room) hw hs maxI (by decide) ht
  unfold innerF
  rw [if_neg (by omega)]
  have := (inner_ok (level := levelsF out head room V s) hw c _ (pushF out head (levelsF out head room V s) t V s maxI room (fun _ => 0)).2.2 _ (h.push (level := levelsF out head room V s) (next := fun _ => 0) hw V maxI)).2
  omega

theorem outer_ok (hw : Wf V m out head) (hs : s < V) (hst : s ≠ t) {room0 : Nat → Nat} : ∀ (c : Nat) (room : Nat → Nat) (tot : Nat), FInv head m t s room0 room tot → Dsum head m room s < c →
    FInv head m t s room0 (outerF out head m t V s c room tot).2 (outerF out head m t V s c room tot).1 ∧ levelsF out head (outerF out head m t V s c room tot).2 V s t < 0 := by
  intro c
  induction c with
  | zero => intro room tot _ h; omega
  | succ c ih =>
    intro room tot h hd
    unfold outerF
    split
    · next ht =>
      have h1 := (inner_ok (level := levelsF out head room V s) hw (Dsum head m room s + 1) room (fun _ => 0) tot h).1
      have h2 := inner_some hw hs (Dsum head m room s) h ht
      generalize innerF out head (levelsF out head room V s) t V s (Dsum head m room s + 1) room (fun _ => 0) tot = r at *
      refine ih r.2 r.1 h1 ?_
      have e1 := h.cons s
      have e2 := h1.cons s
      rw [if_pos rfl, if_neg hst] at e1 e2
      omega
    · next ht => exact ⟨h, by simp only; omega⟩

/-- A phase ends: behind enough pushes the next one sends nothing. -/
theorem inner_fuel {level : Nat → Int} (hw : Wf V m out head) (hst : s ≠ t) : ∀ (c c' : Nat) (room next : Nat → Nat) (tot : Nat), Dsum head m room s < c → Dsum head m room s < c' →
    innerF out head level t V s c room next tot = innerF out head level t V s c' room next tot := by
  intro c
  induction c with
  | zero => intro c' room next tot h; omega
  | succ c ih =>
    intro c' room next tot h h'
    cases c' with
    | zero => omega
    | succ c' =>
      unfold innerF
      split
      · rfl
      · next hp =>
        have R := push_ok (t := t) (level := level) hw V s maxI room next
        have e1 := R.cons s
        rw [if_pos rfl, if_neg hst] at e1
        exact ih c' _ _ _ (by omega) (by omega)
end
end Go.Proofs.Qxb6613837a
