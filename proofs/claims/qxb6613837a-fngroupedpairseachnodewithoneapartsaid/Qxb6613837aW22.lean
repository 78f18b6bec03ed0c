import Derived.Test.Qxb6613837aW21
namespace Go.Proofs.Qxb6613837a
open Go.RowKit
set_option linter.unusedVariables false
set_option linter.unusedSimpArgs false

/-- Block b holds bools. -/
def BRow (w : World) (b n : Nat) (t : Nat → Bool) : Prop := ∃ c ty, w.heap[b]? = some (.cells c ty (0, 0)) ∧ ∀ i, i < n → c[i]? = some (.bool (t i))
theorem BRow.cell {w : World} {b n : Nat} {t : Nat → Bool} (h : BRow w b n t) {i : Nat} (hi : i < n) : w.cell? ⟨b, i, none⟩ = some (.bool (t i)) := by
  obtain ⟨c, ty, hb, hc⟩ := h
  simp [World.cell?, hb, hc i hi]
theorem BRow.frozen {w : World} {b n : Nat} {t : Nat → Bool} (h : BRow w b n t) (i : Nat) : w.frozen? ⟨b, i, none⟩ = false := by
  obtain ⟨c, ty, hb, _⟩ := h
  simp [World.frozen?, hb]
theorem BRow.of_block {w w' : World} {b n : Nat} {t : Nat → Bool} (h : BRow w b n t) (e : w'.heap[b]? = w.heap[b]?) : BRow w' b n t := by
  obtain ⟨c, ty, hb, hc⟩ := h
  exact ⟨c, ty, e.trans hb, hc⟩
theorem BRow.congr {w : World} {b n : Nat} {t t' : Nat → Bool} (h : BRow w b n t) (e : ∀ i, i < n → t i = t' i) : BRow w b n t' := by
  obtain ⟨c, ty, hb, hc⟩ := h
  exact ⟨c, ty, hb, fun i hi => by rw [hc i hi, e i hi]⟩
theorem BRow.set {w : World} {b n : Nat} {t : Nat → Bool} (h : BRow w b n t) (i : Nat) (z : Bool) : BRow (w.setCell ⟨b, i, none⟩ (.bool z)) b n (upd t i z) := by
  obtain ⟨c, ty, hb, hc⟩ := h
  refine ⟨_, ty, heap_setCell_same w b i c ty _ hb, fun j hj => ?_⟩
  have := hc j hj
  by_cases e : j = i
  · subst e
    rw [upd_same]
    have hl := (Array.getElem?_eq_some_iff.1 this).1
    simp [hl]
  · rw [upd_ne _ _ e, Array.getElem?_setIfInBounds_ne (fun e' => e e'.symm)]
    exact this
theorem Try.info4 : (Try.prog.info? 4).map (fun i => (i.zero, i.size, i.bytes)) = some (some (.bool false), 1, 1) := by kernel_rfl
theorem make31 (n : Nat) (hn : n ≤ 1000000) (w : World) : (Instr.makeSlice 31 (.int .i64 n) (.int .i64 n)).run Try.prog w = .ok (.slice (some ⟨w.heap.size, 0, none⟩) n n) (w.alloc (.cells (madeCells #[.bool false] n) 4)) :=
  run_make_row' 31 4 (.bool false) 1 Try.underlying31 Try.info4 rfl .i64 .i64 n (by omega) (by omega) w
theorem BRow.made (w : World) (n b : Nat) (hb : b = w.heap.size) : BRow (w.alloc (.cells (madeCells #[.bool false] n) 4)) b n (fun _ => false) := by
  subst hb
  refine ⟨_, 4, heap_alloc_new w _, fun i hi => ?_⟩
  simp [madeCells, hi, Nat.mod_one]

/-- Who has been taken, behind i rows. -/
def tkn (f : Nat → Int) (X : Nat → Nat → Nat) : Nat → Nat → Bool
  | 0, _ => false
  | i + 1, j => tkn f X i j || (!(decide (f i = 0)) && decide (X i j = 1))
theorem tkn_false {f : Nat → Int} {X : Nat → Nat → Nat} {j : Nat} : ∀ i, (∀ r, r < i → f r ≠ 0 → X r j ≠ 1) → tkn f X i j = false := by
  intro i
  induction i with
  | zero => intro _; rfl
  | succ i ih =>
    intro h
    unfold tkn
    rw [ih (fun r hr => h r (by omega))]
    by_cases e : f i = 0
    · simp [e]
    · have := h i (by omega) e
      simp [this]
theorem tkn_none {f : Nat → Int} {X : Nat → Nat → Nat} {j : Nat} : ∀ i, tkn f X i j = false → ∀ r, r < i → f r ≠ 0 → X r j ≠ 1 := by
  intro i
  induction i with
  | zero => intro _ r hr; omega
  | succ i ih =>
    intro h r hr hf hx
    unfold tkn at h
    simp only [Bool.or_eq_false_iff] at h
    by_cases e : r = i
    · subst e
      have h2 := h.2
      simp [hf, hx] at h2
    · exact ih h.1 r (by omega) hf hx
theorem tkn_zero {f : Nat → Int} {X : Nat → Nat → Nat} {i : Nat} (h : f i = 0) : tkn f X (i + 1) = tkn f X i := by
  funext j
  show (tkn f X i j || (!(decide (f i = 0)) && decide (X i j = 1))) = tkn f X i j
  simp [h]
theorem tkn_upd {f : Nat → Int} {X : Nat → Nat → Nat} {i p k : Nat} (h : f i ≠ 0) (hp : X i p = 1) (ho : ∀ j, j < k → j ≠ p → X i j = 0) {j : Nat} (hj : j < k) : upd (tkn f X i) p true j = tkn f X (i + 1) j := by
  show upd (tkn f X i) p true j = (tkn f X i j || (!(decide (f i = 0)) && decide (X i j = 1)))
  by_cases e : j = p
  · subst e; rw [upd_same]; simp [h, hp]
  · rw [upd_ne _ _ e]; simp [ho j hj e]
def zc (f : Nat → Int) (n : Nat) : Nat := sumTo n fun x => if decide (f x = 0) = true then 1 else 0
def idC (s : Nat → ByteArray) (f : Nat → Int) (i n : Nat) : Nat := sumTo n fun j => if (s j).toList = (s i).toList ∧ decide (f j = 0) = true then 1 else 0
def opC (s : Nat → ByteArray) (t : Nat → Bool) (i n : Nat) : Nat := sumTo n fun j => if (s j).toList = (s i).toList ∧ t j = false then 1 else 0
theorem sum01 {n : Nat} {f : Nat → Nat} (h : ∀ i, f i ≤ 1) : sumTo n f ≤ n := by
  have := sumTo_le (n := n) (f := f) (g := fun _ => 1) (fun i _ => h i)
  rw [sumTo_const] at this
  omega
theorem zc_le (f : Nat → Int) (n : Nat) : zc f n ≤ n := sum01 fun i => by
  show (if decide (f i = 0) = true then 1 else 0) ≤ 1
  split <;> omega
theorem idC_le (s : Nat → ByteArray) (f : Nat → Int) (i n : Nat) : idC s f i n ≤ n := sum01 fun j => by
  show (if (s j).toList = (s i).toList ∧ decide (f j = 0) = true then 1 else 0) ≤ 1
  split <;> omega
theorem opC_le (s : Nat → ByteArray) (t : Nat → Bool) (i n : Nat) : opC s t i n ≤ n := sum01 fun j => by
  show (if (s j).toList = (s i).toList ∧ t j = false then 1 else 0) ≤ 1
  split <;> omega
/-- The last loop's test. -/
theorem law_last {k : Nat} {s : Nat → ByteArray} {f : Nat → Int} (h : 2 * k ≤ (flowOf k (apS s)).1) (i : Nat) : idC s f i k + opC s (tkn f (pairX k (apS s)) k) i k ≤ zc f k := by
  obtain ⟨p1, p2, p3⟩ := pairs_full h
  refine idle_open (X := pairX k (apS s)) (hst := fun i => (s i).toList) (fun a b ha hb hp => (apS_iff s a b).1 ((p1 a b ha hb).2 hp)) p2 p3 (fun j => decide (f j = 0)) (tkn f (pairX k (apS s)) k) (fun j hj ht r hr hz => ?_) (s i).toList
  have h1 := tkn_none k ht r hr (by simpa using hz)
  have h2 := (p1 r j hr hj).1
  omega
/-- No one takes node p ahead of row i. -/
theorem not_taken {k : Nat} {s : Nat → ByteArray} {f : Nat → Int} (h : 2 * k ≤ (flowOf k (apS s)).1) {i p : Nat} (hi : i < k) (hp : p < k) (hx : pairX k (apS s) i p = 1) : tkn f (pairX k (apS s)) i p = false := by
  obtain ⟨p1, p2, p3⟩ := pairs_full h
  refine tkn_false i fun r hr _ hx' => ?_
  obtain ⟨q, hq, hq1, hqo⟩ := row_place (p3 p hp)
  have e1 : i = q := by
    by_cases e : i = q
    · exact e
    · have := hqo i hi e; omega
  have e2 : r = q := by
    by_cases e : r = q
    · exact e
    · have := hqo r (by omega) e; omega
  omega
end Go.Proofs.Qxb6613837a
