import Derived.Test.Qxb6613837aG2
namespace Go.Proofs.Qxb6613837a
set_option linter.unusedVariables false

/-- The inner loop of levels: the edges out of u. -/
def scan (head room : Nat → Nat) (u : Nat) : List Nat → (Nat → Int) → List Nat → (Nat → Int) × List Nat
  | [], lv, q => (lv, q)
  | e :: es, lv, q => if 0 < room e ∧ lv (head e) < 0 then scan head room u es (upd lv (head e) (lv u + 1)) (q ++ [head e]) else scan head room u es lv q

/-- The queue of levels. -/
def bfs (out : Nat → List Nat) (head room : Nat → Nat) : Nat → (Nat → Int) → List Nat → (Nat → Int)
  | 0, lv, _ => lv
  | _ + 1, lv, [] => lv
  | d + 1, lv, u :: q => bfs out head room d (scan head room u (out u) lv q).1 (scan head room u (out u) lv q).2

def levelsF (out : Nat → List Nat) (head room : Nat → Nat) (V s : Nat) : Nat → Int := bfs out head room V (upd (fun _ => -1) s 0) [s]

/-- How many vertices are reached. -/
def Rch (V : Nat) (lv : Nat → Int) : Nat := sumTo V fun v => if 0 ≤ lv v then 1 else 0
theorem sumTo_const (n c : Nat) : sumTo n (fun _ => c) = n * c := by
  induction n with
  | zero => simp [sumTo]
  | succ n ih => simp only [sumTo, ih, Nat.succ_mul]
theorem Rch_le (V : Nat) (lv : Nat → Int) : Rch V lv ≤ V := by
  have := sumTo_le (n := V) (f := fun v => if 0 ≤ lv v then 1 else 0) (g := fun _ => 1) (fun i _ => by show (if 0 ≤ lv i then 1 else 0) ≤ 1; split <;> omega)
  rw [sumTo_const] at this
  unfold Rch
  omega
theorem Rch_upd {V : Nat} {lv : Nat → Int} {v : Nat} {l : Int} (hv : v < V) (h : lv v < 0) (hl : 0 ≤ l) : Rch V (upd lv v l) = Rch V lv + 1 := by
  have := sumTo_one (n := V) (i := v) (f := fun x => if 0 ≤ upd lv v l x then 1 else 0) (g := fun x => if 0 ≤ lv x then 1 else 0) hv (fun j _ hj => by simp only [upd_ne _ _ hj])
  simp only [upd_same, hl, if_true] at this
  rw [if_neg (by omega)] at this
  unfold Rch
  omega

/-- What holds while levels runs. -/
structure BI (V m : Nat) (head room : Nat → Nat) (s : Nat) (ex : Nat → Prop) (lv : Nat → Int) (q : List Nat) : Prop where
  root : lv s = 0
  pred : ∀ v, 0 ≤ lv v → v = s ∨ ∃ e, e < m ∧ head e = v ∧ 0 < room e ∧ 0 ≤ lv (head (mate e)) ∧ lv v = lv (head (mate e)) + 1
  qr : ∀ v, v ∈ q → 0 ≤ lv v
  closed : ∀ e, e < m → 0 < room e → 0 ≤ lv (head (mate e)) → head (mate e) ∉ q → ¬ ex (head (mate e)) → 0 ≤ lv (head e)
  lt : ∀ v, 0 ≤ lv v → v < V
  bound : ∀ v, lv v < Rch V lv

section
variable {V m : Nat} {out : Nat → List Nat} {head room : Nat → Nat} {s : Nat}

theorem BI.add {ex : Nat → Prop} {lv : Nat → Int} {q : List Nat} (hw : Wf V m out head) (h : BI V m head room s ex lv q) {u e : Nat} (he : e < m) (ht : head (mate e) = u) (hu : 0 ≤ lv u) (hr : 0 < room e) (hn : lv (head e) < 0) :
    BI V m head room s ex (upd lv (head e) (lv u + 1)) (q ++ [head e]) := by
  have old : ∀ x, 0 ≤ lv x → upd lv (head e) (lv u + 1) x = lv x := fun x hx => upd_ne _ _ (fun e' => by rw [e'] at hx; omega)
  refine ⟨by rw [old _ (by rw [h.root]; exact Int.le_refl _)]; exact h.root, fun v hv => ?_, fun v hv => ?_, fun e' he' hr' ht' hq hx => ?_, fun v hv => ?_, fun v => ?_⟩
  · by_cases ev : v = head e
    · right
      refine ⟨e, he, ev.symm, hr, ?_, ?_⟩
      · rw [ht, old u hu]; exact hu
      · rw [ht, old u hu, ev, upd_same]
    · rw [upd_ne _ _ ev] at hv
      rcases h.pred v hv with h1 | ⟨e', a1, a2, a3, a4, a5⟩
      · exact .inl h1
      · refine .inr ⟨e', a1, a2, a3, ?_, ?_⟩
        · rw [old _ a4]; exact a4
        · rw [old _ a4, upd_ne _ _ ev]; exact a5
  · rw [List.mem_append, List.mem_singleton] at hv
    rcases hv with hv | hv
    · rw [old v (h.qr v hv)]; exact h.qr v hv
    · rw [hv, upd_same]; omega
  · rw [List.mem_append, List.mem_singleton] at hq
    have ht1 : head (mate e') ≠ head e := fun e1 => hq (.inr e1)
    rw [upd_ne _ _ ht1] at ht'
    have := h.closed e' he' hr' ht' (fun h1 => hq (.inl h1)) hx
    rw [old _ this]; exact this
  · by_cases ev : v = head e
    · rw [ev]; exact hw.lt e he
    · rw [upd_ne _ _ ev] at hv; exact h.lt v hv
  · rw [Rch_upd (hw.lt e he) hn (by omega)]
    by_cases ev : v = head e
    · rw [ev, upd_same]; have := h.bound u; omega
    · rw [upd_ne _ _ ev]; have := h.bound v; omega

theorem scan_bi (hw : Wf V m out head) {ex : Nat → Prop} {u : Nat} : ∀ (es : List Nat) (lv : Nat → Int) (q : List Nat), (∀ e, e ∈ es → e < m ∧ head (mate e) = u) → 0 ≤ lv u → BI V m head room s ex lv q →
    BI V m head room s ex (scan head room u es lv q).1 (scan head room u es lv q).2 ∧ (∀ v, 0 ≤ lv v → (scan head room u es lv q).1 v = lv v) ∧
    (∀ e, e ∈ es → 0 < room e → 0 ≤ (scan head room u es lv q).1 (head e)) ∧ Rch V (scan head room u es lv q).1 + q.length = Rch V lv + (scan head room u es lv q).2.length := by
  intro es
  induction es with
  | nil => intro lv q _ _ h; exact ⟨h, fun _ _ => rfl, fun e he => by simp at he, rfl⟩
  | cons e es ih =>
    intro lv q hes hu h
    obtain ⟨hem, het⟩ := hes e (List.mem_cons_self ..)
    unfold scan
    split
    · next hc =>
      have h1 := h.add hw hem het hu hc.1 hc.2
      have hold : upd lv (head e) (lv u + 1) u = lv u := upd_ne _ _ (fun e' => by rw [e'] at hu; omega)
      obtain ⟨i1, i2, i3, i4⟩ := ih (upd lv (head e) (lv u + 1)) (q ++ [head e]) (fun e' he' => hes e' (List.mem_cons_of_mem _ he')) (by rw [hold]; exact hu) h1
      refine ⟨i1, fun v hv => ?_, fun e' he' hr => ?_, ?_⟩
      · have h2 : upd lv (head e) (lv u + 1) v = lv v := upd_ne _ _ (fun e' => by rw [e'] at hv; omega)
        rw [i2 v (by rw [h2]; exact hv), h2]
      · rcases List.mem_cons.1 he' with h2 | h2
        · subst h2
          rw [i2 _ (by rw [upd_same]; omega), upd_same]; omega
        · exact i3 e' h2 hr
      · rw [Rch_upd (hw.lt e hem) hc.2 (by omega), List.length_append, List.length_singleton] at i4
        omega
    · next hc =>
      obtain ⟨i1, i2, i3, i4⟩ := ih lv q (fun e' he' => hes e' (List.mem_cons_of_mem _ he')) hu h
      refine ⟨i1, i2, fun e' he' hr => ?_, i4⟩
      rcases List.mem_cons.1 he' with h2 | h2
      · subst h2
        have h3 : 0 ≤ lv (head e') := by
          by_cases h4 : lv (head e') < 0
          · exact absurd ⟨hr, h4⟩ hc
          · omega
        rw [i2 _ h3]; exact h3
      · exact i3 e' h2 hr

theorem bfs_bi (hw : Wf V m out head) : ∀ (d : Nat) (lv : Nat → Int) (q : List Nat), BI V m head room s (fun _ => False) lv q → q.length + (V - Rch V lv) ≤ d → BI V m head room s (fun _ => False) (bfs out head room d lv q) [] := by
  intro d
  induction d with
  | zero =>
    intro lv q h hl
    have : q = [] := List.eq_nil_of_length_eq_zero (by omega)
    subst this
    exact h
  | succ d ih =>
    intro lv q h hl
    cases q with
    | nil => exact h
    | cons u q =>
      have hu := h.qr u (List.mem_cons_self ..)
      have hb : BI V m head room s (fun x => x = u) lv q := ⟨h.root, h.pred, fun v hv => h.qr v (List.mem_cons_of_mem _ hv), fun e he hr ht hq hx => h.closed e he hr ht (fun h1 => by rcases List.mem_cons.1 h1 with h2 | h2; exact hx h2; exact hq h2) (fun h => h), h.lt, h.bound⟩
      obtain ⟨i1, i2, i3, i4⟩ := scan_bi hw (out u) lv q (fun e he => hw.mem u e he) hu hb
      unfold bfs
      refine ih _ _ ⟨i1.root, i1.pred, i1.qr, fun e he hr ht hq hx => ?_, i1.lt, i1.bound⟩ ?_
      · by_cases e1 : head (mate e) = u
        · exact i3 e (by rw [← e1]; exact hw.all e he) hr
        · exact i1.closed e he hr ht hq e1
      · have r1 := Rch_le V lv
        have r2 := Rch_le V (scan head room u (out u) lv q).1
        rw [List.length_cons] at hl
        omega

theorem levels_bi (hw : Wf V m out head) (hs : s < V) : BI V m head room s (fun _ => False) (levelsF out head room V s) [] := by
  have hr : Rch V (upd (fun _ => (-1 : Int)) s 0) = 1 := by
    have h0 : Rch V (fun _ => (-1 : Int)) = 0 := by
      unfold Rch
      rw [sumTo_congr (g := fun _ => 0) (fun i _ => by simp), sumTo_const]
      omega
    rw [Rch_upd hs (by simp) (by omega), h0]
  have one : ∀ v, 0 ≤ upd (fun _ => (-1 : Int)) s 0 v → v = s := by
    intro v hv
    by_cases e : v = s
    · exact e
    · rw [upd_ne _ _ e] at hv; omega
  refine bfs_bi hw V _ [s] ⟨upd_same _ _ _, fun v hv => .inl (one v hv), fun v hv => ?_, fun e he hr ht hq hx => ?_, fun v hv => by rw [one v hv]; exact hs, fun v => ?_⟩ ?_
  · rw [List.mem_singleton.1 hv, upd_same]; exact Int.le_refl _
  · exact absurd (List.mem_singleton.2 (one _ ht)) hq
  · rw [hr]
    by_cases e : v = s
    · rw [e, upd_same]; decide
    · rw [upd_ne _ _ e]; decide
  · rw [hr, List.length_singleton]; omega

/-- THE FIRST PUSH OF A PHASE SENDS SOMETHING. -/
theorem first_push {t : Nat} (hw : Wf V m out head) (hs : s < V) (limit : Nat) (hl : 0 < limit) (ht : 0 ≤ levelsF out head room V s t) :
    0 < (pushF out head (levelsF out head room V s) t V s limit room (fun _ => 0)).1 := by
  have B := levels_bi (room := room) hw hs
  generalize levelsF out head room V s = level at *
  by_cases h0 : (pushF out head level t V s limit room (fun _ => 0)).1 = 0
  · exfalso
    have hd := push_dead (t := t) (level := level) hw V s limit room (fun _ => 0) hl (fun y => by have := B.bound y; have := Rch_le V level; rw [B.root]; omega) (fun x i hi => absurd hi (Nat.not_lt_zero _)) h0
    generalize (pushF out head level t V s limit room (fun _ => 0)).2.2 = next at *
    obtain ⟨d1, d2, d3⟩ := hd
    have dead : ∀ (n : Nat) v, level v = n → Dead out t next v := by
      intro n
      induction n with
      | zero =>
        intro v hv
        rcases B.pred v (by omega) with h1 | ⟨e, a1, a2, a3, a4, a5⟩
        · rw [h1]; exact ⟨d1, d2⟩
        · omega
      | succ n ih =>
        intro v hv
        rcases B.pred v (by omega) with h1 | ⟨e, a1, a2, a3, a4, a5⟩
        · rw [h1]; exact ⟨d1, d2⟩
        · have hx := ih (head (mate e)) (by omega)
          have hmem := hw.all e a1
          obtain ⟨i, hi⟩ := List.getElem?_of_mem hmem
          obtain ⟨hil, hie⟩ := List.getElem?_eq_some_iff.1 hi
          have hg : (out (head (mate e))).getD i 0 = e := by rw [List.getD_eq_getElem?_getD, hi]; rfl
          have := d3 (head (mate e)) i (Nat.lt_of_lt_of_le hil hx.2) hil
          rw [hg, a2] at this
          rcases this with h1 | h1 | h1
          · omega
          · exact absurd a5 h1
          · exact h1
    exact (dead (level t).toNat t (by omega)).1 rfl
  · omega
end
end Go.Proofs.Qxb6613837a
