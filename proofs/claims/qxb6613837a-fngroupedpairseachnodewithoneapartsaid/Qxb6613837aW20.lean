import Derived.Test.Qxb6613837aW18
import Derived.Test.Qxb6613837aW19
namespace Go.Proofs.Qxb6613837a
open Go.RowKit
set_option linter.unusedVariables false
set_option linter.unusedSimpArgs false

/-- A slice of ints that came in. -/
def Ints (w : World) (a : Option Addr) (n : Nat) (f : Nat → Int) : Prop :=
  (a = none → n = 0) ∧ (n = 0 ∨ ∃ b off, a = some ⟨b, off, none⟩ ∧ ∀ i, i < n → w.cell? ⟨b, off + i, none⟩ = some (.int .i64 (f i)))
theorem IRow.copied {b N : Nat} {f : Nat → Int} : ∀ (l : List Int) (o : Nat) (w : World) (g : Nat → Int), IRow w b N g → (∀ j, j < l.length → l.getD j 0 = f (o + j)) →
    IRow (w.setCells b o (l.map fun z => Value.int .i64 z)) b N (fun x => if o ≤ x ∧ x < o + l.length then f x else g x) := by
  intro l
  induction l with
  | nil => intro o w g h _; exact h.congr (fun x _ => by rw [if_neg (by simp only [List.length_nil]; omega)])
  | cons z l ih =>
    intro o w g h hf
    have h0 := hf 0 (by simp)
    refine (ih (o + 1) _ _ (h.set o z) (fun j hj => by have := hf (j + 1) (by simp; omega); rw [show o + 1 + j = o + (j + 1) by omega]; simpa using this)).congr fun x _ => ?_
    by_cases e : x = o
    · subst e
      rw [if_neg (by omega), if_pos (by simp), upd_same]
      simpa using h0
    · by_cases h2 : o + 1 ≤ x ∧ x < o + 1 + l.length
      · rw [if_pos h2, if_pos (by simp; omega)]
      · rw [if_neg h2, if_neg (by simp; omega), upd_ne _ _ e]
theorem SRow.set {w : World} {b n : Nat} {f : Nat → ByteArray} (h : SRow w b n f) (i : Nat) (z : ByteArray) : SRow (w.setCell ⟨b, i, none⟩ (.string z)) b n (upd f i z) := by
  obtain ⟨c, t, hb, hc⟩ := h
  refine ⟨_, t, heap_setCell_same w b i c t _ hb, fun j hj => ?_⟩
  have := hc j hj
  by_cases e : j = i
  · subst e
    rw [upd_same]
    have hl := (Array.getElem?_eq_some_iff.1 this).1
    simp [hl]
  · rw [upd_ne _ _ e, Array.getElem?_setIfInBounds_ne (fun e' => e e'.symm)]
    exact this
theorem SRow.congr {w : World} {b n : Nat} {f f' : Nat → ByteArray} (h : SRow w b n f) (e : ∀ i, i < n → f i = f' i) : SRow w b n f' := by
  obtain ⟨c, t, hb, hc⟩ := h
  exact ⟨c, t, hb, fun i hi => by rw [hc i hi, e i hi]⟩
theorem SRow.copied {b N : Nat} {f : Nat → ByteArray} : ∀ (l : List ByteArray) (o : Nat) (w : World) (g : Nat → ByteArray), SRow w b N g → (∀ j, j < l.length → l.getD j ByteArray.empty = f (o + j)) →
    SRow (w.setCells b o (l.map fun z => Value.string z)) b N (fun x => if o ≤ x ∧ x < o + l.length then f x else g x) := by
  intro l
  induction l with
  | nil => intro o w g h _; exact h.congr (fun x _ => by rw [if_neg (by simp only [List.length_nil]; omega)])
  | cons z l ih =>
    intro o w g h hf
    have h0 := hf 0 (by simp)
    refine (ih (o + 1) _ _ (h.set o z) (fun j hj => by have := hf (j + 1) (by simp; omega); rw [show o + 1 + j = o + (j + 1) by omega]; simpa using this)).congr fun x _ => ?_
    by_cases e : x = o
    · subst e
      rw [if_neg (by omega), if_pos (by simp), upd_same]
      simpa using h0
    · by_cases h2 : o + 1 ≤ x ∧ x < o + 1 + l.length
      · rw [if_pos h2, if_pos (by simp; omega)]
      · rw [if_neg h2, if_neg (by simp; omega), upd_ne _ _ e]
theorem getD_range_map' {α : Type} (n : Nat) (f : Nat → α) (d : α) {i : Nat} (hi : i < n) : ((List.range n).map f).getD i d = f i := by
  rw [List.getD_eq_getElem?_getD, List.getElem?_map, List.getElem?_range hi]; rfl

/-- The copy of a row of ints into a new row. -/
theorem copy22 {w : World} {a : Option Addr} {n c : Nat} {f : Nat → Int} (h : Ints w a n f) (ty : TypeId) {W : World} {B : Nat} (hB : B = w.heap.size) (hW : W = w.alloc (.cells (madeCells #[.int .i64 0] n) 3)) :
    ∃ W2, (Builtin.copy_ #[22, 22] ty #[.slice (some ⟨B, 0, none⟩) n n, .slice a n c]).run Try.prog W = .ok (goInt n) W2 ∧ IRow W2 B n f ∧ Kept (fun _ => False) w W2 := by
  have r0 : IRow W B n (fun _ => 0) := by rw [hW]; exact IRow.made w n B hB
  have K0 : Kept (fun _ => False) w W := by rw [hW]; exact (Kept.refl _ w).alloc _
  have hsz : (Try.prog.info? 3).map (·.size) = some 1 := by obtain ⟨i, hi, _, hs, _⟩ := info3_ex; rw [hi]; simp [hs]
  rcases h.2 with h0 | ⟨b, off, rfl, hc⟩
  · subst h0
    exact ⟨W, run_copy_none W 22 22 ty 3 _ _ 0 0 0 c Try.underlying22 hsz rfl, r0.congr (fun i hi => by omega), K0⟩
  · have hlen : ((List.range n).map f).length = n := by simp
    have hrun := run_copy_cells (P := Try.prog) W 22 22 ty 3 B 0 n n ⟨b, off, none⟩ n c (((List.range n).map f).map fun z => Value.int .i64 z) Try.underlying22 hsz (by simp)
      (by intro j v hv
          rw [List.getElem?_map, List.getElem?_map] at hv
          have hj : j < n := by
            rcases Nat.lt_or_ge j n with hj | hj
            · exact hj
            · rw [List.getElem?_eq_none (by simp; omega)] at hv; simp at hv
          rw [List.getElem?_range hj] at hv
          simp only [Option.map_some, Option.some.injEq] at hv
          subst hv
          rw [Addr.add_lit]
          exact kept_cell (hc j hj) K0 id)
      (by intro j hj; rw [List.length_map, hlen] at hj; rw [Nat.zero_add, r0.cell hj]; rfl)
      (by intro j hj; exact r0.frozen _)
      (by intro v hv; rw [List.mem_map] at hv; obtain ⟨x, _, rfl⟩ := hv; rfl)
    rw [List.length_map, hlen] at hrun
    refine ⟨_, hrun, ?_, ?_⟩
    · refine (IRow.copied (f := f) ((List.range n).map f) 0 W _ r0 (fun j hj => by rw [hlen] at hj; rw [getD_range_map' n f 0 hj, Nat.zero_add])).congr fun x hx => ?_
      rw [hlen, if_pos (by omega)]
    · refine K0.join (kept_setCells (ex := fun b => b = B) (b := B) rfl _ _ _ (Kept.refl _ W)) (fun b hb h => ?_)
      omega

theorem Try.info9 : (Try.prog.info? 9).map (fun i => (i.zero, i.size, i.bytes)) = some (some (.string ByteArray.empty), 1, 16) := by kernel_rfl
theorem make23 (n : Nat) (hn : n ≤ 1000000) (w : World) : (Instr.makeSlice 23 (.int .i64 n) (.int .i64 n)).run Try.prog w = .ok (.slice (some ⟨w.heap.size, 0, none⟩) n n) (w.alloc (.cells (madeCells #[.string ByteArray.empty] n) 9)) :=
  run_make_row' 23 9 (.string ByteArray.empty) 16 Try.underlying23 Try.info9 rfl .i64 .i64 n (by omega) (by omega) w
theorem copy23 {w : World} {a : Option Addr} {n c : Nat} {s : Nat → ByteArray} (h : Strs w a n s) (ty : TypeId) {W : World} {B : Nat} (hB : B = w.heap.size) (hW : W = w.alloc (.cells (madeCells #[.string ByteArray.empty] n) 9)) :
    ∃ W2, (Builtin.copy_ #[23, 23] ty #[.slice (some ⟨B, 0, none⟩) n n, .slice a n c]).run Try.prog W = .ok (goInt n) W2 ∧ SRow W2 B n s ∧ Kept (fun _ => False) w W2 := by
  have r0 : SRow W B n (fun _ => ByteArray.empty) := by
    rw [hW]; subst hB
    refine ⟨_, 9, heap_alloc_new w _, fun i hi => ?_⟩
    simp [madeCells, hi, Nat.mod_one]
  have f0 : ∀ i, W.frozen? ⟨B, i, none⟩ = false := by
    intro i
    obtain ⟨cc, t, hb, _⟩ := r0
    simp [World.frozen?, hb]
  have K0 : Kept (fun _ => False) w W := by rw [hW]; exact (Kept.refl _ w).alloc _
  have hsz : (Try.prog.info? 9).map (·.size) = some 1 := by
    have h := Try.info9
    cases e : Try.prog.info? 9 with
    | none => rw [e] at h; cases h
    | some i => rw [e] at h; simp at h; simp [h.2.1]
  rcases h with h0 | ⟨b, off, rfl, hc⟩
  · subst h0
    exact ⟨W, run_copy_none W 23 23 ty 9 _ _ 0 0 0 c Try.underlying23 hsz rfl, r0.congr (fun i hi => by omega), K0⟩
  · have hlen : ((List.range n).map s).length = n := by simp
    have hrun := run_copy_cells (P := Try.prog) W 23 23 ty 9 B 0 n n ⟨b, off, none⟩ n c (((List.range n).map s).map fun z => Value.string z) Try.underlying23 hsz (by simp)
      (by intro j v hv
          rw [List.getElem?_map, List.getElem?_map] at hv
          have hj : j < n := by
            rcases Nat.lt_or_ge j n with hj | hj
            · exact hj
            · rw [List.getElem?_eq_none (by simp; omega)] at hv; simp at hv
          rw [List.getElem?_range hj] at hv
          simp only [Option.map_some, Option.some.injEq] at hv
          subst hv
          rw [Addr.add_lit]
          exact kept_cell (hc j hj) K0 id)
      (by intro j hj; rw [List.length_map, hlen] at hj; rw [Nat.zero_add, r0.cell hj]; rfl)
      (by intro j hj; exact f0 _)
      (by intro v hv; rw [List.mem_map] at hv; obtain ⟨x, _, rfl⟩ := hv; rfl)
    rw [List.length_map, hlen] at hrun
    refine ⟨_, hrun, ?_, ?_⟩
    · refine (SRow.copied (f := s) ((List.range n).map s) 0 W _ r0 (fun j hj => by rw [hlen] at hj; rw [getD_range_map' n s _ hj, Nat.zero_add])).congr fun x hx => ?_
      rw [hlen, if_pos (by omega)]
    · refine K0.join (kept_setCells (ex := fun b => b = B) (b := B) rfl _ _ _ (Kept.refl _ W)) (fun b hb h => ?_)
      omega
end Go.Proofs.Qxb6613837a
