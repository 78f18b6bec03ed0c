import Derived.Test.Qxb6613837aW13
namespace Go.Proofs.Qxb6613837a
open Go.RowKit
set_option linter.unusedVariables false

/-- Block b holds strings. -/
def SRow (w : World) (b n : Nat) (s : Nat → ByteArray) : Prop := ∃ c t, w.heap[b]? = some (.cells c t (0, 0)) ∧ ∀ i, i < n → c[i]? = some (.string (s i))
theorem SRow.cell {w : World} {b n : Nat} {s : Nat → ByteArray} (h : SRow w b n s) {i : Nat} (hi : i < n) : w.cell? ⟨b, i, none⟩ = some (.string (s i)) := by
  obtain ⟨c, t, hb, hc⟩ := h
  simp [World.cell?, hb, hc i hi]
theorem SRow.lt {w : World} {b n : Nat} {s : Nat → ByteArray} (h : SRow w b n s) : b < w.heap.size := by
  obtain ⟨c, t, hb, _⟩ := h
  exact lt_of_block hb
theorem SRow.of_block {w w' : World} {b n : Nat} {s : Nat → ByteArray} (h : SRow w b n s) (e : w'.heap[b]? = w.heap[b]?) : SRow w' b n s := by
  obtain ⟨c, t, hb, hc⟩ := h
  exact ⟨c, t, e.trans hb, hc⟩
theorem SRow.kept {ex : Nat → Prop} {w w' : World} {b n : Nat} {s : Nat → ByteArray} (h : SRow w b n s) (k : Kept ex w w') (hb : ¬ ex b) : SRow w' b n s := h.of_block (k.block b h.lt hb)

/-- Two nodes on different hosts. -/
def apS (s : Nat → ByteArray) (i j : Nat) : Bool := !((s i).toList == (s j).toList)
theorem apart_any {w : World} {Ph hb k c i j : Nat} {s : Nat → ByteArray} (hP : w.cell? ⟨Ph, 0, none⟩ = some (.slice (some ⟨hb, 0, none⟩) k c)) (hS : SRow w hb k s) (hk : k ≤ 1000000) (hi : i < k) (hj : j < k) :
    Calls Try.prog 22 #[.int .i64 i, .int .i64 j, .pointer (some ⟨Ph, 0, none⟩)] w fun e w' => e = .returned (.bool (apS s i j)) ∧ ∃ n, w' = w.drewN n := by
  have ci := hS.cell hi
  have cj := hS.cell hj
  clear hS
  go_enter Try.func22, Try.ntmps22
  go_wp2_with fail
  go_quiet (fail)
  go_wp2
  go_ret
  exact ⟨rfl, _, rfl⟩

/-- What link reads: the variable with the closure, the variable with the hosts. -/
structure LinkOk (w : World) (Pa Ph hb k c : Nat) (s : Nat → ByteArray) : Prop where
  pa : w.cell? ⟨Pa, 0, none⟩ = some (.func (.func 22) #[] #[.pointer (some ⟨Ph, 0, none⟩)])
  ph : w.cell? ⟨Ph, 0, none⟩ = some (.slice (some ⟨hb, 0, none⟩) k c)
  hs : SRow w hb k s
theorem LinkOk.kept {w w' : World} {Pa Ph hb k c : Nat} {s : Nat → ByteArray} (h : LinkOk w Pa Ph hb k c s) (K : Kept (fun _ => False) w w') : LinkOk w' Pa Ph hb k c s :=
  ⟨kept_cell h.pa K id, kept_cell h.ph K id, h.hs.kept K id⟩

set_option maxRecDepth 100000 in
theorem link_any {w : World} {Pa Ph hb k c i j : Nat} {s : Nat → ByteArray} (L : LinkOk w Pa Ph hb k c s) (hk : k ≤ 1000000) (hi : i < k) (hj : j < k) :
    Calls Try.prog 27 #[.int .i64 i, .int .i64 j, .pointer (some ⟨Pa, 0, none⟩)] w fun e w' => e = .returned (.tuple #[.agg #[.int .i64 0, .int .i64 1], .bool (apS s i j)]) ∧ Kept (fun _ => False) w w' := by
  have pa := L.pa
  have hpa := World.block_lt_of_cell? w _ pa
  simp only at hpa
  have AP := hid (fun o n => apart_any (i := i) (j := j) ((L.kept (((Kept.refl (fun _ => False) w).alloc o).drewN n)).ph) ((L.kept (((Kept.refl (fun _ => False) w).alloc o).drewN n)).hs) hk hi hj)
  clear L
  go_enter Try.func27, Try.ntmps27
  go_wp2_with (go_at_call 22; refine (AP.out _ 0).mono ?_; rintro e w1 ⟨rfl, n, rfl⟩)
  have K1 : Kept (fun _ => False) w ((w.alloc (Obj.cells #[Value.int IntKind.i64 0, Value.int IntKind.i64 0] 41)).drewN n) := ((Kept.refl _ w).alloc _).drewN n
  have c0 : ((w.alloc (Obj.cells #[Value.int IntKind.i64 0, Value.int IntKind.i64 0] 41)).drewN n).cell? ⟨w.heap.size, 0, none⟩ = some (.int .i64 0) := by
    show (w.alloc (Obj.cells #[Value.int IntKind.i64 0, Value.int IntKind.i64 0] 41)).cell? ⟨w.heap.size, 0, none⟩ = some (.int .i64 0)
    simp only [World.cell?, heap_alloc_new]; rfl
  have c1 : ((w.alloc (Obj.cells #[Value.int IntKind.i64 0, Value.int IntKind.i64 0] 41)).drewN n).cell? ⟨w.heap.size, 1, none⟩ = some (.int .i64 0) := by
    show (w.alloc (Obj.cells #[Value.int IntKind.i64 0, Value.int IntKind.i64 0] 41)).cell? ⟨w.heap.size, 1, none⟩ = some (.int .i64 0)
    simp only [World.cell?, heap_alloc_new]; rfl
  generalize (w.alloc (Obj.cells #[Value.int IntKind.i64 0, Value.int IntKind.i64 0] 41)).drewN n = W at K1 c0 c1 ⊢
  have d1 : ((W.setCell ⟨w.heap.size, 0, none⟩ (.int .i64 0)).setCell ⟨w.heap.size, 1, none⟩ (.int .i64 1)).cell? ⟨w.heap.size, 1, none⟩ = some (.int .i64 1) := World.cell?_setCell_same _ _ _ ((World.cell?_setCell_other _ _ _ _ (by simp)).trans c1)
  have d0 : ((W.setCell ⟨w.heap.size, 0, none⟩ (.int .i64 0)).setCell ⟨w.heap.size, 1, none⟩ (.int .i64 1)).cell? ⟨w.heap.size, 0, none⟩ = some (.int .i64 0) := (World.cell?_setCell_other _ _ _ _ (by simp)).trans (World.cell?_setCell_same _ _ _ c0)
  have K2 : Kept (fun _ => False) w ((W.setCell ⟨w.heap.size, 0, none⟩ (.int .i64 0)).setCell ⟨w.heap.size, 1, none⟩ (.int .i64 1)) :=
    K1.above ⟨rfl, rfl, rfl, by simp, fun b hb _ => by rw [Below.heap_setCell _ _ _ _ (fun e => by simp at e; omega), Below.heap_setCell _ _ _ _ (fun e => by simp at e; omega)]⟩
  generalize (W.setCell ⟨w.heap.size, 0, none⟩ (.int .i64 0)).setCell ⟨w.heap.size, 1, none⟩ (.int .i64 1) = W2 at d0 d1 K2 ⊢
  refine bodyPost_ret (v := .tuple #[.agg #[.int .i64 0, .int .i64 1], .bool (apS s i j)]) (by simp [results, Try.results27, go_sem, d0, d1]) rfl ?_
  exact ⟨rfl, K2⟩
end Go.Proofs.Qxb6613837a
