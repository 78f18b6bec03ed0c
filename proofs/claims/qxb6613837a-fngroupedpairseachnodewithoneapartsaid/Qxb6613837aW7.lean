import Derived.Test.Qxb6613837aW4
import Derived.Test.Qxb6613837aW6
import Derived.Lib.SliceRun
import Derived.Deep.OwnRows
namespace Go.Proofs.Qxb6613837a
open Go.RowKit
set_option linter.unusedVariables false

theorem make22 (n : Nat) (hn : n ≤ 1000000) (w : World) : (Instr.makeSlice 22 (.int .i64 n) (.int .i64 n)).run Try.prog w = .ok (.slice (some ⟨w.heap.size, 0, none⟩) n n) (w.alloc (.cells (madeCells #[.int .i64 0] n) 3)) :=
  run_make_row' 22 3 (.int .i64 0) 8 Try.underlying22 Try.info3 rfl .i64 .i64 n (by omega) (by omega) w
theorem IRow.made (w : World) (n b : Nat) (hb : b = w.heap.size) : IRow (w.alloc (.cells (madeCells #[.int .i64 0] n) 3)) b n (fun _ => 0) := by
  subst hb
  refine ⟨_, 3, heap_alloc_new w _, fun i hi => ?_⟩
  simp [madeCells, hi, Nat.mod_one]
theorem IRow.zeroes {b N : Nat} : ∀ (n o : Nat) (w : World) (f : Nat → Int), IRow w b N f → IRow (w.setCells b o (List.replicate n (.int .i64 0))) b N (fun x => if o ≤ x ∧ x < o + n then 0 else f x) := by
  intro n
  induction n with
  | zero => intro o w f h; exact h.congr (fun i _ => by rw [if_neg (by omega)])
  | succ n ih =>
    intro o w f h
    rw [List.replicate_succ]
    refine (ih (o + 1) _ _ (h.set o 0)).congr fun i _ => ?_
    by_cases e : i = o
    · subst e; rw [upd_same, if_neg (by omega), if_pos (by omega)]
    · rw [upd_ne _ _ e]
      by_cases h2 : o + 1 ≤ i ∧ i < o + 1 + n
      · rw [if_pos h2, if_pos (by omega)]
      · rw [if_neg h2, if_neg (by omega)]
theorem kept_setCells {ex : Nat → Prop} {w : World} {b : Nat} (hb : ex b) : ∀ (vs : List Value) (o : Nat) (w' : World), Kept ex w w' → Kept ex w (w'.setCells b o vs)
  | [], _, _, h => h
  | v :: vs, o, w', h => kept_setCells hb vs (o + 1) _ (h.setCell (a := ⟨b, o, none⟩) hb v)
theorem clear22 (w : World) (N n : Nat) (f : Nat → Int) (ty : TypeId) (hN : 0 < n) (h : IRow w N n f) (c : Nat) : (Builtin.clear_ #[22] ty #[.slice (some ⟨N, 0, none⟩) n c]).run Try.prog w = .ok (.tuple #[]) (w.setCells N 0 (List.replicate n (.int .i64 0))) := by
  obtain ⟨i, hi, hz, hs, hb⟩ := info3_ex
  refine Lib.run_clear_slice (P := Try.prog) w 22 3 ty (.int .i64 0) Try.underlying22 (fun w => by simp [zeroValue, typeInfo, hi, hz]) rfl rfl N 0 n c hN ?_ ?_
  · intro j hj
    rw [Nat.zero_add, h.cell hj]; rfl
  · intro j hj; exact h.frozen _
theorem Kept.join {ex ex' : Nat → Prop} {w w1 w2 : World} (h : Kept ex w w1) (k : Kept ex' w1 w2) (hx : ∀ b, b < w.heap.size → ex' b → ex b) : Kept ex w w2 :=
  ⟨k.os.trans h.os, k.tape.trans h.tape, k.output.trans h.output, Nat.le_trans h.size k.size, fun b hb he => (k.block b (Nat.lt_of_lt_of_le hb h.size) (fun h' => he (hx b hb h'))).trans (h.block b hb he)⟩
theorem Net.widen {ex : Nat → Prop} {w : World} {g O H R V m cH cR : Nat} {row : Nat → Option Addr} {cap : Nat → Nat} {out : Nat → List Nat} {head : Nat → Nat} (h : Net ex w g O H R V m cH cR row cap out head) (hV : 0 < V) : Net (fun b => ex b ∨ w.heap.size ≤ b) w g O H R V m cH cR row cap out head := by
  refine ⟨h.f0, h.f1, h.f2, h.rows, fun u i hu hi => ?_, h.hd, fun h' => ?_, fun h' => ?_, fun h' => ?_⟩
  · obtain ⟨b, h1, h2, h3⟩ := h.cells u i hu hi
    refine ⟨b, h1, fun h' => ?_, h3⟩
    have := World.block_lt_of_cell? w _ h3
    rcases h' with h' | h'
    · exact h2 h'
    · simp at this; omega
  · have := World.block_lt_of_cell? w _ h.f0
    rcases h' with h' | h'
    · exact h.xg h'
    · simp at this; omega
  · have := World.block_lt_of_cell? w _ (h.rows 0 hV)
    rcases h' with h' | h'
    · exact h.xO h'
    · simp at this; omega
  · have := h.hd.lt
    rcases h' with h' | h'
    · exact h.xH h'
    · omega

/-- What maxFlow stands on. -/
structure FCtx (V m : Nat) (out : Nat → List Nat) (head room : Nat → Nat) (s t : Nat) : Prop where
  wf : Wf V m out head
  hm : m ≤ 1000000
  hV : V ≤ 1000000
  len : ∀ u, (out u).length ≤ 1000000
  pair : ∀ e, room e + room (mate e) ≤ 1000000000
  hs : s < V
  ht : t < V
  st : s ≠ t
theorem FCtx.dsum {V m : Nat} {out : Nat → List Nat} {head room : Nat → Nat} {s t : Nat} (C : FCtx V m out head room s t) : Dsum head m room s ≤ 1000000000000000 := by
  have h : Dsum head m room s ≤ sumTo m (fun _ => 1000000000) := sumTo_le fun e _ => by
    show (if head (mate e) = s then room e else 0) ≤ 1000000000
    have := C.pair e
    split <;> omega
  rw [sumTo_const] at h
  have := C.hm
  omega
end Go.Proofs.Qxb6613837a
