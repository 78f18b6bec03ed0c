import Derived.Test.Qxb6613359aW2
import Derived.Deep.RegionHeld3
namespace Go.Proofs.Qxb6613359a
open Go.RowKit

def vals (x : Nat → Int) (k : Nat) : List Value := (List.range k).map fun i => .int .i64 (x i)
def nms (k : Nat) : List Value := (names.take k).map .string

theorem vals_succ (x : Nat → Int) (k : Nat) : vals x (k + 1) = vals x k ++ [.int .i64 (x k)] := by simp [vals, List.range_succ]
theorem names_length : names.length = 12 := rfl
theorem nms_succ (k : Nat) (h : k < 12) : nms (k + 1) = nms k ++ [.string (names.getD k ByteArray.empty)] := by
  have hl : k < names.length := by rw [names_length]; exact h
  unfold nms
  rw [List.take_succ_eq_append_getElem hl, List.map_append, List.getD_eq_getElem?_getD, List.getElem?_eq_getElem hl]
  rfl

theorem Inv.alloc {base Bn Bv k : Nat} {xs ys : List Value} {w : World} (h : Inv base Bn Bv k xs ys w) (o : Obj) : Inv base Bn Bv k xs ys (w.alloc o) := by
  obtain ⟨⟨vn, h1, h2⟩, ⟨vv, h3, h4⟩⟩ := h
  exact ⟨⟨vn, (Below.heap_alloc _ _ _ (lt_of_block h1)).trans h1, h2.alloc o⟩, ⟨vv, (Below.heap_alloc _ _ _ (lt_of_block h3)).trans h3, h4.alloc o⟩⟩
theorem Inv.drew {base Bn Bv k : Nat} {xs ys : List Value} {w : World} (h : Inv base Bn Bv k xs ys w) : Inv base Bn Bv k xs ys w.drew := ⟨h.n, h.v⟩

theorem Inv.base {base base' Bn Bv k : Nat} {xs ys : List Value} {w : World} (h : Inv base Bn Bv k xs ys w) (hb : base' ≤ base) : Inv base' Bn Bv k xs ys w := by
  have go : ∀ {e : TypeId} {v : Value} {zs : List Value}, w.ownsRow base e 1 v k zs → w.ownsRow base' e 1 v k zs := by
    intro e v zs h
    obtain ⟨h1, h2⟩ := h
    refine ⟨h1, ?_⟩
    rcases h2 with h2 | ⟨g, cap, cur, hv, hg, r⟩
    · exact .inl h2
    · exact .inr ⟨g, cap, cur, hv, by omega, r⟩
  obtain ⟨⟨vn, h1, h2⟩, ⟨vv, h3, h4⟩⟩ := h
  exact ⟨⟨vn, h1, go h2⟩, ⟨vv, h3, go h4⟩⟩

theorem named_cells (B k : Nat) (h : k < 12) : (namedCells B)[k * 2]? = some (.string (names.getD k ByteArray.empty)) ∧ (namedCells B)[k * 2 + 1]? = some (.pointer (some ⟨B, k, none⟩)) := by
  match k, h with
  | 0, _ | 1, _ | 2, _ | 3, _ | 4, _ | 5, _ | 6, _ | 7, _ | 8, _ | 9, _ | 10, _ | 11, _ => exact ⟨rfl, rfl⟩
theorem cells12_at (x : Nat → Int) (k : Nat) (h : k < 12) : (cells12 x)[k]? = some (.int .i64 (x k)) := by
  match k, h with
  | 0, _ | 1, _ | 2, _ | 3, _ | 4, _ | 5, _ | 6, _ | 7, _ | 8, _ | 9, _ | 10, _ | 11, _ => rfl

theorem cell_at {w : World} {b j : Nat} {cs : Array Value} {t : TypeId} {v : Value} (h : w.heap[b]? = some (.cells cs t (0, 0))) (hv : cs[j]? = some v) : w.cell? ⟨b, j, none⟩ = some v := by
  simp [World.cell?, h, hv]

set_option maxRecDepth 100000 in
set_option maxHeartbeats 1000000 in
theorem each_any (x : Nat → Int) (Bn Bv : Nat) (w : World) (hBn : w.heap[Bn]? = some (.cells #[.slice none 0 0] 23 (0, 0))) (hBv : w.heap[Bv]? = some (.cells #[.slice none 0 0] 24 (0, 0))) (hne : ¬ Bn = Bv) :
    Calls Try.prog 9 #[.agg (cells12 x), .func (.func 10) #[] #[.pointer (some ⟨Bn, 0, none⟩), .pointer (some ⟨Bv, 0, none⟩)]] w fun e w' => e = .returned (.tuple #[]) ∧ Inv w.heap.size Bn Bv 12 (nms 12) (vals x 12) w' ∧ Kp w.heap.size Bn Bv w w' := by
  go_enter Try.func9, Try.ntmps9
  go_wp2_with (go_at_call 11; refine (named_any _ _).mono ?_; rintro e w' ⟨rfl, rfl⟩)
  go_loopw [8] (fun i wr => ∃ k : Nat, k ≤ 12 ∧ i = .int .i64 k ∧ Inv (w.heap.size + 2) Bn Bv k (nms k) (vals x k) wr ∧ wr.heap[w.heap.size]? = some (.cells (cells12 x) 28 (0, 0)) ∧ wr.heap[w.heap.size + 1]? = some (.cells (namedCells w.heap.size) 39 (0, 0)) ∧ Kp w.heap.size Bn Bv w wr ∧ w.heap.size + 2 ≤ wr.heap.size) (fun i _ => 12 - (intOf i).toNat)
  case atStart =>
    have hn := lt_of_block hBn
    have hv := lt_of_block hBv
    have o1 : ((w.alloc (.cells (cells12 x) 28)).alloc (.cells (namedCells w.heap.size) 39)).heap[w.heap.size]? = some (.cells (cells12 x) 28 (0, 0)) := by
      rw [Below.heap_alloc _ _ _ (by simp)]; exact heap_alloc_new w _
    have o2 : ((w.alloc (.cells (cells12 x) 28)).alloc (.cells (namedCells w.heap.size) 39)).heap[w.heap.size + 1]? = some (.cells (namedCells w.heap.size) 39 (0, 0)) := by
      have := heap_alloc_new (w.alloc (.cells (cells12 x) 28)) (.cells (namedCells w.heap.size) 39)
      simpa using this
    have old : ∀ j, j < w.heap.size → ((w.alloc (.cells (cells12 x) 28)).alloc (.cells (namedCells w.heap.size) 39)).heap[j]? = w.heap[j]? := by
      intro j hj
      rw [Below.heap_alloc _ _ _ (by simp; omega), Below.heap_alloc _ _ _ hj]
    exact ⟨0, by omega, rfl, ⟨⟨_, (old _ hn).trans hBn, World.ownsRow_nil _ _ _ _⟩, ⟨_, (old _ hv).trans hBv, World.ownsRow_nil _ _ _ _⟩⟩, o1, o2, ⟨rfl, rfl, rfl, by simp; omega, fun j hj _ _ => old j hj⟩, by simp⟩
  case round =>
    obtain ⟨k, hk, rfl, hinv, hx, hnm, hkp, hsz⟩ := hrel
    have hbn := lt_of_block hBn
    have hbv := lt_of_block hBv
    by_cases hlt : k < 12
    · have hc1 := cell_at hnm (named_cells w.heap.size k hlt).1
      have hc2 := cell_at hnm (named_cells w.heap.size k hlt).2
      have hc3 := cell_at hx (cells12_at x k hlt)
      have HH : Hid _ := And.intro hinv (And.intro hx (And.intro hnm hkp))
      have HN : Hid _ := nms_succ k hlt
      clear hinv hx hnm hkp hBn hBv
      generalize names.getD k ByteArray.empty = nm at *
      go_wp2_with fail
      go_region_held3 (fun w' => w'.cell? ⟨wr.heap.size, 0, none⟩ = some (.string nm) ∧ w'.cell? ⟨wr.heap.size, 1, none⟩ = some (.pointer (some ⟨w.heap.size, k, none⟩)) ∧ w'.cell? ⟨w.heap.size, k, none⟩ = some (.int .i64 (x k))) (first | go_keep | exact ⟨cell_at hnew1 rfl, cell_at hnew1 rfl, cell_at hx1 (cells12_at x k hlt)⟩)
        ((go_at_call 10; refine (clo_any nm (x k) Bn Bv (w.heap.size + 2) k (nms k) (vals x k) _ (by omega) (by omega) hne ?_ hlt ?_).mono ?_; (simp; omega); exact (HH.out.1.alloc _).drew; rintro e w1 ⟨rfl, hinv1, hkp1, hoth1⟩; have hnew1 := hoth1 wr.heap.size _ _ _ (heap_alloc_new wr _) (by decide) (by decide) (by omega) (by omega); have hx1 := hoth1 w.heap.size _ _ _ ((Below.heap_alloc _ _ _ (lt_of_block HH.out.2.1)).trans HH.out.2.1) (by decide) (by decide) (by omega) (by omega)))
      have hnm1 := hoth1 (w.heap.size + 1) _ _ _ ((Below.heap_alloc _ _ _ (lt_of_block HH.out.2.2.1)).trans HH.out.2.2.1) (by decide) (by decide) (by omega) (by omega)
      rw [← HN.out, ← vals_succ] at hinv1
      have R : Hid (Inv (w.heap.size + 2) Bn Bv (k + 1) (nms (k + 1)) (vals x (k + 1)) w1 ∧ w1.heap[w.heap.size]? = some (.cells (cells12 x) 28 (0, 0)) ∧ w1.heap[w.heap.size + 1]? = some (.cells (namedCells w.heap.size) 39 (0, 0)) ∧ Kp w.heap.size Bn Bv w w1 ∧ w.heap.size + 2 ≤ w1.heap.size) := by
        have hkp := HH.out.2.2.2
        have hs1 : wr.heap.size + 1 ≤ w1.heap.size := by have := hkp1.size; simpa using this
        refine ⟨hinv1, hx1, hnm1, ⟨hkp1.os.trans hkp.os, hkp1.tape.trans hkp.tape, hkp1.output.trans hkp.output, by have := hkp.size; omega, fun j hj h1 h2 => ?_⟩, by omega⟩
        rw [hkp1.block j (by omega) h1 h2, ← hkp.block j hj h1 h2]
        exact Below.heap_alloc _ _ _ (by omega)
      clear HH HN hc1 hc2 hc3 hinv1 hkp1 hoth1 hnew1 hx1 hnm1
      go_wp2
      go_roundw
      case rel => exact ⟨k + 1, by omega, by go_num, R.out⟩
      case measure => simp [intOf]; omega
    · have hk12 : k = 12 := by omega
      subst hk12
      have R : Hid (Inv w.heap.size Bn Bv 12 (nms 12) (vals x 12) wr ∧ Kp w.heap.size Bn Bv w wr) := ⟨hinv.base (by omega), hkp⟩
      clear hinv hkp hx hnm hBn hBv
      go_wp2
      go_end0
      exact ⟨rfl, R.out⟩
end Go.Proofs.Qxb6613359a
