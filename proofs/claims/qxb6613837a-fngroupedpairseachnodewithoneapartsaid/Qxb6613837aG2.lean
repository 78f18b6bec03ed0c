import Derived.Test.Qxb6613837aG1
namespace Go.Proofs.Qxb6613837a
set_option linter.unusedVariables false

/-- A network that hangs together: V vertices, m edges. -/
structure Wf (V m : Nat) (out : Nat → List Nat) (head : Nat → Nat) : Prop where
  mem : ∀ u e, e ∈ out u → e < m ∧ head (mate e) = u
  all : ∀ e, e < m → e ∈ out (head (mate e))
  lt : ∀ e, e < m → head e < V
  mate : ∀ e, e < m → mate e < m

/-- What push leaves. -/
structure Ok (head : Nat → Nat) (m : Nat) (level : Nat → Int) (t u limit : Nat) (room next : Nat → Nat) (r : Nat × (Nat → Nat) × (Nat → Nat)) : Prop where
  le : r.1 ≤ limit
  mono : ∀ x, next x ≤ r.2.2 x
  keep : ∀ x, level x ≤ level u → x ≠ u → r.2.2 x = next x
  pair : ∀ e, r.2.1 e + r.2.1 (Go.Proofs.Qxb6613837a.mate e) = room e + room (Go.Proofs.Qxb6613837a.mate e)
  cons : ∀ x, Dsum head m r.2.1 x + (if x = u then r.1 else 0) = Dsum head m room x + (if x = t then r.1 else 0)
  far : ∀ e, level (head (Go.Proofs.Qxb6613837a.mate e)) < level u → level (head e) ≤ level u → r.2.1 e = room e
  none : r.1 = 0 → r.2.1 = room

theorem ite_flip (a b c : Nat) : (if a = b then c else 0) = (if b = a then c else 0) := by
  by_cases h : a = b
  · subst h; rfl
  · rw [if_neg h, if_neg (fun h' => h h'.symm)]
theorem getD_mem {l : List Nat} {i : Nat} (h : i < l.length) : l.getD i 0 ∈ l := by
  rw [List.getD_eq_getElem?_getD, List.getElem?_eq_getElem h]
  exact List.getElem_mem h

section
variable {V m : Nat} {out : Nat → List Nat} {head : Nat → Nat} {level : Nat → Int} {t : Nat}

theorem loop_ok (hw : Wf V m out head) {call : Nat → Nat → (Nat → Nat) → (Nat → Nat) → Nat × (Nat → Nat) × (Nat → Nat)} (hc : ∀ v l room next, Ok head m level t v l room next (call v l room next)) (u limit : Nat) (hut : u ≠ t) :
    ∀ c room next, c + next u ≤ (out u).length → Ok head m level t u limit room next (pushLoop out head level call u limit c room next) := by
  intro c
  induction c with
  | zero =>
    intro room next _
    exact ⟨Nat.zero_le _, fun _ => Nat.le_refl _, fun _ _ _ => rfl, fun _ => rfl, fun x => by simp [pushLoop], fun _ _ _ => rfl, fun _ => rfl⟩
  | succ c ih =>
    intro room next hcn
    have he := getD_mem (l := out u) (i := next u) (by omega)
    unfold pushLoop
    generalize (out u).getD (next u) 0 = e at *
    obtain ⟨hem, het⟩ := hw.mem u e he
    split
    · have h := ih room (upd next u (next u + 1)) (by rw [upd_same]; omega)
      refine ⟨h.le, fun x => ?_, fun x h1 h2 => ?_, h.pair, h.cons, h.far, h.none⟩
      · have := h.mono x
        by_cases e : x = u
        · subst e; rw [upd_same] at this; omega
        · rw [upd_ne _ _ e] at this; exact this
      · rw [h.keep x h1 h2, upd_ne _ _ h2]
    · next hno =>
      have hroom : room e ≠ 0 := fun h => hno (.inl h)
      have hlev : level (head e) = level u + 1 := Decidable.byContradiction fun h => hno (.inr h)
      have R := hc (head e) (min limit (room e)) room next
      generalize call (head e) (min limit (room e)) room next = r at *
      have huv : u ≠ head e := fun h => by rw [← h] at hlev; omega
      have hRe : r.2.1 e = room e := R.far e (by rw [het]; omega) (Int.le_refl _)
      have hfe : r.1 ≤ r.2.1 e := by rw [hRe]; exact Nat.le_trans R.le (Nat.min_le_right _ _)
      split
      · next hpos =>
        refine ⟨Nat.le_trans R.le (Nat.min_le_left _ _), R.mono, fun x h1 h2 => R.keep x (by omega) (fun h => by rw [h] at h1; omega), fun e' => ?_, fun x => ?_, fun e' h1 h2 => ?_, fun h => by simp only at h; omega⟩
        · have hp := R.pair e'
          simp only
          by_cases e1 : e' = e
          · subst e1
            rw [upd_same, upd_ne _ _ (Ne.symm (mate_ne _)), upd_same]
            omega
          · by_cases e2 : e' = mate e
            · subst e2
              rw [mate_mate] at hp ⊢
              rw [upd_same, upd_ne _ _ (Ne.symm (mate_ne _)), upd_same]
              omega
            · have e3 : mate e' ≠ e := fun h => e2 (by rw [← h, mate_mate])
              have e4 : mate e' ≠ mate e := fun h => e1 (by rw [← mate_mate e', h, mate_mate])
              rw [upd_ne _ _ e2, upd_ne _ _ e1, upd_ne _ _ e4, upd_ne _ _ e3]
              exact hp
        · have hd := Dsum_move (head := head) (m := m) (room := r.2.1) hem (hw.mate e hem) hfe x
          have hcx := R.cons x
          simp only
          rw [het] at hd
          have s1 : (if u = x then r.1 else 0) = (if x = u then r.1 else 0) := ite_flip _ _ _
          have s2 : (if head e = x then r.1 else 0) = (if x = head e then r.1 else 0) := ite_flip _ _ _
          rw [s1, s2] at hd
          omega
        · have e1 : e' ≠ e := fun h => by rw [h, het] at h1; omega
          have e2 : e' ≠ mate e := fun h => by rw [h, mate_mate] at h1; omega
          simp only
          rw [upd_ne _ _ e2, upd_ne _ _ e1]
          exact R.far e' (by omega) (by omega)
      · next hpos =>
        have h0 : r.1 = 0 := by omega
        have hr : r.2.1 = room := R.none h0
        have hnu : r.2.2 u = next u := R.keep u (by omega) huv
        rw [hr]
        have h := ih room (upd r.2.2 u (r.2.2 u + 1)) (by rw [upd_same]; omega)
        refine ⟨h.le, fun x => ?_, fun x h1 h2 => ?_, h.pair, h.cons, h.far, h.none⟩
        · have := h.mono x
          by_cases e : x = u
          · subst e; rw [upd_same] at this; omega
          · rw [upd_ne _ _ e] at this; exact Nat.le_trans (R.mono x) this
        · rw [h.keep x h1 h2, upd_ne _ _ h2]
          exact R.keep x (by omega) (fun h => by rw [h] at h1; omega)

theorem ok_zero (u limit : Nat) (room next : Nat → Nat) : Ok head m level t u limit room next (0, room, next) :=
  ⟨Nat.zero_le _, fun _ => Nat.le_refl _, fun _ _ _ => rfl, fun _ => rfl, fun x => by simp, fun _ _ _ => rfl, fun _ => rfl⟩

theorem push_ok (hw : Wf V m out head) : ∀ d u limit room next, Ok head m level t u limit room next (pushF out head level t d u limit room next) := by
  intro d
  induction d with
  | zero => intro u limit room next; exact ok_zero u limit room next
  | succ d ih =>
    intro u limit room next
    unfold pushF
    split
    · next h =>
      subst h
      exact ⟨Nat.le_refl _, fun _ => Nat.le_refl _, fun _ _ _ => rfl, fun _ => rfl, fun x => rfl, fun _ _ _ => rfl, fun _ => rfl⟩
    · next h =>
      by_cases hn : next u ≤ (out u).length
      · exact loop_ok hw ih u limit h _ room next (by omega)
      · rw [show (out u).length - next u = 0 by omega]
        exact ok_zero u limit room next

/-- A vertex that leads nowhere. -/
def Dead (out : Nat → List Nat) (t : Nat) (next : Nat → Nat) (y : Nat) : Prop := y ≠ t ∧ (out y).length ≤ next y
/-- Every edge that is behind 'next' leads nowhere. -/
def Useless (out : Nat → List Nat) (head : Nat → Nat) (level : Nat → Int) (t : Nat) (room next : Nat → Nat) : Prop :=
  ∀ x i, i < next x → i < (out x).length → room ((out x).getD i 0) = 0 ∨ level (head ((out x).getD i 0)) ≠ level x + 1 ∨ Dead out t next (head ((out x).getD i 0))
theorem Dead.mono {next next' : Nat → Nat} (h : ∀ x, next x ≤ next' x) {y : Nat} (hd : Dead out t next y) : Dead out t next' y := ⟨hd.1, Nat.le_trans hd.2 (h y)⟩
theorem or_dead {p q : Prop} {next next' : Nat → Nat} {y : Nat} (hm : ∀ x, next x ≤ next' x) (h : p ∨ q ∨ Dead out t next y) : p ∨ q ∨ Dead out t next' y := by
  rcases h with h | h | h
  · exact .inl h
  · exact .inr (.inl h)
  · exact .inr (.inr (h.mono hm))
theorem Useless.step {room next : Nat → Nat} {u : Nat} (h : Useless out head level t room next)
    (he : room ((out u).getD (next u) 0) = 0 ∨ level (head ((out u).getD (next u) 0)) ≠ level u + 1 ∨ Dead out t next (head ((out u).getD (next u) 0))) : Useless out head level t room (upd next u (next u + 1)) := by
  have hm : ∀ x, next x ≤ upd next u (next u + 1) x := by
    intro x
    by_cases e : x = u
    · subst e; rw [upd_same]; omega
    · rw [upd_ne _ _ e]; exact Nat.le_refl _
  intro x i hi hl
  by_cases e : x = u
  · subst e
    rw [upd_same] at hi
    by_cases e2 : i = next x
    · subst e2
      exact or_dead hm he
    · exact or_dead hm (h x i (by omega) hl)
  · rw [upd_ne _ _ e] at hi
    exact or_dead hm (h x i hi hl)

theorem loop_dead (hw : Wf V m out head) {call : Nat → Nat → (Nat → Nat) → (Nat → Nat) → Nat × (Nat → Nat) × (Nat → Nat)} (hc : ∀ v l room next, Ok head m level t v l room next (call v l room next)) (u limit : Nat) (hl : 0 < limit)
    (hd : ∀ v l room next, level v = level u + 1 → 0 < l → Useless out head level t room next → (call v l room next).1 = 0 → v ≠ t ∧ (out v).length ≤ (call v l room next).2.2 v ∧ Useless out head level t room (call v l room next).2.2) :
    ∀ c room next, c + next u = (out u).length ∨ (c = 0 ∧ (out u).length ≤ next u) → Useless out head level t room next → (pushLoop out head level call u limit c room next).1 = 0 →
      (out u).length ≤ (pushLoop out head level call u limit c room next).2.2 u ∧ Useless out head level t room (pushLoop out head level call u limit c room next).2.2 := by
  intro c
  induction c with
  | zero => intro room next h hu _; exact ⟨by show (out u).length ≤ next u; omega, hu⟩
  | succ c ih =>
    intro room next hcn hu
    have hcn' : c + 1 + next u = (out u).length := by omega
    have he := getD_mem (l := out u) (i := next u) (by omega)
    have hstep := hu.step (u := u)
    unfold pushLoop
    generalize hE : (out u).getD (next u) 0 = e at *
    obtain ⟨hem, het⟩ := hw.mem u e he
    split
    · next hyes =>
      intro h0
      exact ih room (upd next u (next u + 1)) (.inl (by rw [upd_same]; omega)) (hstep (by rcases hyes with h | h; exact .inl h; exact .inr (.inl h))) h0
    · next hno =>
      have hroom : room e ≠ 0 := fun h => hno (.inl h)
      have hlev : level (head e) = level u + 1 := Decidable.byContradiction fun h => hno (.inr h)
      have R := hc (head e) (min limit (room e)) room next
      have D := hd (head e) (min limit (room e)) room next hlev (by omega) hu
      generalize call (head e) (min limit (room e)) room next = r at *
      have huv : u ≠ head e := fun h => by rw [← h] at hlev; omega
      split
      · next hpos => intro h0; simp only at h0; omega
      · next hpos =>
        have h00 : r.1 = 0 := by omega
        have hr : r.2.1 = room := R.none h00
        have hnu : r.2.2 u = next u := R.keep u (by omega) huv
        obtain ⟨d1, d2, d3⟩ := D h00
        rw [hr]
        intro h0
        refine ih room (upd r.2.2 u (r.2.2 u + 1)) (.inl (by rw [upd_same]; omega)) (d3.step (u := u) ?_) h0
        rw [hnu, hE]
        exact .inr (.inr ⟨d1, d2⟩)

theorem push_dead (hw : Wf V m out head) : ∀ (d : Nat) (u limit : Nat) (room next : Nat → Nat), 0 < limit → (∀ y, level y < level u + (d : Int)) → Useless out head level t room next → (pushF out head level t d u limit room next).1 = 0 →
    u ≠ t ∧ (out u).length ≤ (pushF out head level t d u limit room next).2.2 u ∧ Useless out head level t room (pushF out head level t d u limit room next).2.2 := by
  intro d
  induction d with
  | zero => intro u limit room next _ hb; have := hb u; omega
  | succ d ih =>
    intro u limit room next hl hb hu
    unfold pushF
    split
    · next h => intro h0; simp only at h0; omega
    · next h =>
      intro h0
      refine ⟨h, loop_dead hw (push_ok hw d) u limit hl (fun v l room next hv hl' hu' h0' => ih v l room next hl' (fun y => by have := hb y; omega) hu' h0') _ room next ?_ hu h0⟩
      by_cases hn : next u ≤ (out u).length
      · left; omega
      · right; omega
end
end Go.Proofs.Qxb6613837a
