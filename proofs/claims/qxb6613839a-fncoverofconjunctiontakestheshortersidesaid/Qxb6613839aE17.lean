import Derived.Test.Qxb6613839aE16
import Derived.Laws.MakeOwn
namespace Go.Proofs.Qxb6613839a
open Go.RowKit
set_option linter.unusedVariables false
set_option linter.unusedSimpArgs false

/-- A slice of bools. -/
def Bools (w : World) (a : Option Addr) (n : Nat) (f : Nat → Bool) : Prop :=
  n = 0 ∨ ∃ b off, a = some ⟨b, off, none⟩ ∧ ∀ i, i < n → w.cell? ⟨b, off + i, none⟩ = some (.bool (f i))
theorem Bools.below {w w' : World} {a : Option Addr} {n : Nat} {s : Nat → Bool} (h : Bools w a n s) (hb : Below w.heap.size w w') : Bools w' a n s := by
  rcases h with h | ⟨b, off, ha, h⟩
  · exact .inl h
  exact .inr ⟨b, off, ha, fun i hi => cell_keep (h i hi) hb⟩
theorem Bools.at {w : World} {a : Option Addr} {n : Nat} {s : Nat → Bool} (h : Bools w a n s) {k : Nat} (hk : k < n) : ∃ b off, a = some ⟨b, off, none⟩ ∧ w.cell? ⟨b, off + k, none⟩ = some (.bool (s k)) := by
  rcases h with h | ⟨b, off, ha, h⟩
  · omega
  · exact ⟨b, off, ha, h k hk⟩


theorem undrew {N : Nat} {w w1 : World} (h : Below N w.drew w1) : Below N w w1 := ⟨h.os, h.tape, h.output, h.size, h.block⟩

theorem Try.info24 : (Try.prog.info? 24).map (fun i => (i.zero, i.size, i.bytes)) = some (some (.pointer none), 1, 8) := by kernel_rfl
theorem make35 (n : Nat) (hn : n ≤ 4096) (w : World) : (Instr.makeSlice 35 (.int .i64 n) (.int .i64 n)).run Try.prog w = .ok (.slice (some ⟨w.heap.size, 0, none⟩) n n) (w.alloc (.cells (madeCells #[.pointer none] n) 24)) := by
  obtain ⟨i, hi, hz, hs, hb⟩ := info_parts Try.info24
  have := run_make (P := Try.prog) w 35 24 i (.pointer none) Try.underlying35 hi hz .i64 .i64 n n (by omega) (by omega) (by rw [hb]; omega) (by omega)
  rw [hs] at this
  have e : (Value.pointer none).cells = #[.pointer none] := rfl
  rw [e] at this
  simpa using this

/-- The expressions made so far, in block B. -/
def Es (w : World) (B n k : Nat) (s0 s1 : Nat → ByteArray) (fl : Nat → Bool) : Prop :=
  ∃ cs : Array Value, w.heap[B]? = some (.cells cs 24 (0, 0)) ∧ (∀ j, j < n → ∃ x, cs[j]? = some (.pointer x)) ∧
    ∀ j, j < k → ∃ p, cs[j]? = some (.pointer (some ⟨p, 0, none⟩)) ∧ ¬ p = B ∧ Expr w p 69 (leafPay (s0 j) (s1 j) (fl j))

theorem Es.start {w w' : World} {n : Nat} {s0 s1 : Nat → ByteArray} {fl : Nat → Bool} (h : w' = w.alloc (.cells (madeCells #[.pointer none] n) 24)) : Es w' w.heap.size n 0 s0 s1 fl := by
  subst h
  refine ⟨_, heap_alloc_new w _, fun j hj => ⟨none, ?_⟩, fun j hj => by omega⟩
  simp [madeCells, hj, Nat.mod_one]
theorem Es.below {w w' : World} {B n k : Nat} {s0 s1 : Nat → ByteArray} {fl : Nat → Bool} (h : Es w B n k s0 s1 fl) (hb : Below w.heap.size w w') : Es w' B n k s0 s1 fl := by
  obtain ⟨cs, h1, h2, h3⟩ := h
  refine ⟨cs, (hb.block B (lt_of_block h1)).trans h1, h2, fun j hj => ?_⟩
  obtain ⟨p, hp, hne, he⟩ := h3 j hj
  exact ⟨p, hp, hne, he.below hb⟩
theorem Es.lt {w : World} {B n k : Nat} {s0 s1 : Nat → ByteArray} {fl : Nat → Bool} (h : Es w B n k s0 s1 fl) : B < w.heap.size := by
  obtain ⟨cs, h1, _⟩ := h
  exact lt_of_block h1
theorem Es.at {w : World} {B n k : Nat} {s0 s1 : Nat → ByteArray} {fl : Nat → Bool} (h : Es w B n k s0 s1 fl) {j : Nat} (hj : j < n) : ∃ x, w.cell? ⟨B, j, none⟩ = some (.pointer x) ∧ w.frozen? ⟨B, j, none⟩ = false := by
  obtain ⟨cs, h1, h2, _⟩ := h
  obtain ⟨x, hx⟩ := h2 j hj
  exact ⟨x, by simp [World.cell?, h1, hx], by simp [World.frozen?, h1]⟩
theorem Es.put {w w1 : World} {B n k q : Nat} {s0 s1 : Nat → ByteArray} {fl : Nat → Bool} (h : Es w B n k s0 s1 fl) (hk : k < n) (hb : Below w.heap.size w w1) (hq : w.heap.size ≤ q) (he : Expr w1 q 69 (leafPay (s0 k) (s1 k) (fl k))) : Es (w1.setCell ⟨B, k, none⟩ (.pointer (some ⟨q, 0, none⟩))) B n (k + 1) s0 s1 fl := by
  have hB := h.lt
  obtain ⟨cs, h1, h2, h3⟩ := h.below hb
  have hks : k < cs.size := by
    obtain ⟨x, hx⟩ := h2 k hk
    exact (Array.getElem?_eq_some_iff.1 hx).1
  have ex : ∀ p T v, ¬ p = B → Expr w1 p T v → Expr (w1.setCell ⟨B, k, none⟩ (.pointer (some ⟨q, 0, none⟩))) p T v := by
    intro p T v hp h
    unfold Expr at h ⊢
    exact (World.cell?_of_block (Below.heap_setCell _ _ _ _ hp)).trans h
  refine ⟨_, heap_setCell_same w1 B k cs 24 _ h1, fun j hj => ?_, fun j hj => ?_⟩
  · by_cases e : j = k
    · subst e
      exact ⟨_, by simp [hks]; rfl⟩
    · obtain ⟨x, hx⟩ := h2 j hj
      exact ⟨x, by rw [Array.getElem?_setIfInBounds_ne (by omega)]; exact hx⟩
  · by_cases e : j = k
    · subst e
      exact ⟨q, by simp [hks], by omega, ex _ _ _ (by omega) he⟩
    · obtain ⟨p, hp, hne, hE⟩ := h3 j (by omega)
      exact ⟨p, by rw [Array.getElem?_setIfInBounds_ne (by omega)]; exact hp, hne, ex _ _ _ hne hE⟩

/-- The nodes and their terms. -/
def nds (s0 s1 : Nat → ByteArray) (fl : Nat → Bool) (n : Nat) : List Nd := (List.range n).map fun j => .inr (69, leafPay (s0 j) (s1 j) (fl j))
def tms (s0 s1 : Nat → ByteArray) (n : Nat) : List Tm := (List.range n).map fun j => [(s0 j, s1 j)]
def prs (s0 s1 : Nat → ByteArray) (n : Nat) : Tm := (List.range n).map fun j => (s0 j, s1 j)
theorem flat_one {α β : Type} (g : α → β) : ∀ l : List α, (l.map fun j => [g j]).flatten = l.map g
  | [] => rfl
  | a :: l => by simp [flat_one g l]
theorem tms_flat (s0 s1 : Nat → ByteArray) (n : Nat) : (tms s0 s1 n).flatten = prs s0 s1 n := flat_one _ _
theorem prs_length (s0 s1 : Nat → ByteArray) (n : Nat) : (prs s0 s1 n).length = n := by simp [prs]
theorem good_map (g : Nat → Nd) (t : Nat → Tm) (h : ∀ j, Good (g j) (t j)) : ∀ l : List Nat, AllGood (l.map g) (l.map t)
  | [] => trivial
  | a :: l => ⟨h a, good_map g t h l⟩
theorem nds_good (s0 s1 : Nat → ByteArray) (fl : Nat → Bool) (n : Nat) : AllGood (nds s0 s1 fl n) (tms s0 s1 n) := good_map _ _ (fun j => Good.leaf _ _ _) _
theorem nds_take (s0 s1 : Nat → ByteArray) (fl : Nat → Bool) (n m : Nat) : AllGood ((nds s0 s1 fl n).take m) ((tms s0 s1 n).take m) := by
  unfold nds tms
  rw [← List.map_take, ← List.map_take]
  exact good_map _ _ (fun j => Good.leaf _ _ _) _
theorem nds_drop (s0 s1 : Nat → ByteArray) (fl : Nat → Bool) (n m : Nat) : AllGood ((nds s0 s1 fl n).drop m) ((tms s0 s1 n).drop m) := by
  unfold nds tms
  rw [← List.map_drop, ← List.map_drop]
  exact good_map _ _ (fun j => Good.leaf _ _ _) _
theorem tms_cut (s0 s1 : Nat → ByteArray) (n m : Nat) : ((tms s0 s1 n).take m).flatten ++ ((tms s0 s1 n).drop m).flatten = prs s0 s1 n := by
  rw [← List.flatten_append, List.take_append_drop, tms_flat]

theorem Es.cell {w : World} {B n : Nat} {s0 s1 : Nat → ByteArray} {fl : Nat → Bool} (h : Es w B n n s0 s1 fl) (i : Nat) (y : Nd) (hi : (nds s0 s1 fl n)[i]? = some y) : ∃ p, w.cell? ⟨B, i, none⟩ = some (.pointer (some ⟨p, 0, none⟩)) ∧ Expr w p (ndPair y).1 (ndPair y).2 := by
  obtain ⟨cs, h1, h2, h3⟩ := h
  have hin : i < n := by
    have := (List.getElem?_eq_some_iff.1 hi).1
    simpa [nds] using this
  simp [nds, hin] at hi
  subst hi
  obtain ⟨p, hp, _, he⟩ := h3 i hin
  exact ⟨p, by simp [World.cell?, h1, hp], he⟩
theorem Es.whole {w : World} {B n : Nat} {s0 s1 : Nat → ByteArray} {fl : Nat → Bool} (h : Es w B n n s0 s1 fl) : Ptrs w (some ⟨B, 0, none⟩) n (nds s0 s1 fl n) :=
  ⟨by simp [nds], .inr ⟨B, 0, rfl, fun i y hi => by rw [Nat.zero_add]; exact h.cell i y hi⟩⟩
theorem Es.left {w : World} {B n m : Nat} {s0 s1 : Nat → ByteArray} {fl : Nat → Bool} (h : Es w B n n s0 s1 fl) (hm : m ≤ n) : Ptrs w (some ⟨B, 0, none⟩) m ((nds s0 s1 fl n).take m) := by
  refine ⟨by simp [nds]; omega, .inr ⟨B, 0, rfl, fun i y hi => ?_⟩⟩
  rw [Nat.zero_add]
  refine h.cell i y ?_
  rw [List.getElem?_take] at hi
  by_cases e : i < m
  · simpa [e] using hi
  · simp [e] at hi
theorem Es.right {w : World} {B n m : Nat} {s0 s1 : Nat → ByteArray} {fl : Nat → Bool} (h : Es w B n n s0 s1 fl) (hm : m ≤ n) : Ptrs w (some ⟨B, m, none⟩) (n - m) ((nds s0 s1 fl n).drop m) := by
  refine ⟨by simp [nds], .inr ⟨B, m, rfl, fun i y hi => ?_⟩⟩
  rw [List.getElem?_drop] at hi
  exact h.cell (m + i) y hi

/-- A slice of terms, cell by cell. -/
def TRow (w : World) (a : Option Addr) (n : Nat) (s0 s1 : Nat → ByteArray) : Prop :=
  n = 0 ∨ ∃ g, a = some ⟨g, 0, none⟩ ∧ ∀ i, i < n → w.cell? ⟨g, i * 2, none⟩ = some (.string (s0 i)) ∧ w.cell? ⟨g, i * 2 + 1, none⟩ = some (.string (s1 i))
theorem tcells_at : ∀ (l : Tm) (i : Nat) (t : ByteArray × ByteArray), l[i]? = some t → (tcells l)[i * 2]? = some (.string t.1) ∧ (tcells l)[i * 2 + 1]? = some (.string t.2)
  | [], i, t, h => by simp at h
  | x :: l, 0, t, h => by simp at h; subst h; exact ⟨rfl, rfl⟩
  | x :: l, i + 1, t, h => by
    have := tcells_at l i t (by simpa using h)
    rw [show (i + 1) * 2 = i * 2 + 2 by omega, show i * 2 + 2 + 1 = (i * 2 + 1) + 2 by omega]
    exact this
theorem addr_add0 (g j : Nat) : (⟨g, 0, none⟩ : Addr).add j = ⟨g, j, none⟩ := by
  unfold Addr.add
  split
  · next h => simp_all
  · simp
theorem trow_of {w : World} {base : Nat} {a : Option Addr} {n' c n : Nat} {s0 s1 : Nat → ByteArray} (h : w.ownsRow base 32 2 (.slice a n' c) (prs s0 s1 n).length (tcells (prs s0 s1 n))) : n' = n ∧ TRow w a n s0 s1 := by
  have hs : Src w a n' c (prs s0 s1 n) := owns_base2 h (Nat.zero_le _)
  obtain ⟨h1, h2⟩ := hs.form
  rw [prs_length] at h1
  refine ⟨h1, ?_⟩
  rcases h2 with ⟨_, hl, _⟩ | ⟨g, rfl, _⟩
  · left
    have := congrArg List.length hl
    rw [prs_length] at this
    simpa using this
  · right
    refine ⟨g, rfl, fun i hi => ?_⟩
    have ht := tcells_at (prs s0 s1 n) i (s0 i, s1 i) (by simp [prs, hi])
    have e1 := hs.news _ _ ht.1
    have e2 := hs.news _ _ ht.2
    rw [addr_add0] at e1 e2
    exact ⟨e1, e2⟩
theorem TRow.below {w w' : World} {a : Option Addr} {n : Nat} {s0 s1 : Nat → ByteArray} (h : TRow w a n s0 s1) (hb : Below w.heap.size w w') : TRow w' a n s0 s1 := by
  rcases h with h | ⟨g, ha, h⟩
  · exact .inl h
  exact .inr ⟨g, ha, fun i hi => ⟨cell_keep (h i hi).1 hb, cell_keep (h i hi).2 hb⟩⟩
theorem TRow.at {w : World} {a : Option Addr} {n : Nat} {s0 s1 : Nat → ByteArray} (h : TRow w a n s0 s1) {k : Nat} (hk : k < n) : ∃ g, a = some ⟨g, 0, none⟩ ∧ w.cell? ⟨g, k * 2, none⟩ = some (.string (s0 k)) ∧ w.cell? ⟨g, k * 2 + 1, none⟩ = some (.string (s1 k)) := by
  rcases h with h | ⟨g, ha, h⟩
  · omega
  · exact ⟨g, ha, h k hk⟩
end Go.Proofs.Qxb6613839a
