import Derived.Test.Qxb6613359aW5
namespace Go.Proofs.Qxb6613359a
open Go.RowKit

def upd (f : Nat → Int) (k : Nat) (v : Int) : Nat → Int := fun i => if i = k then v else f i
/-- The inner loop of the insertion sort, from place j on: x goes down. -/
def ins (x : Int) : Nat → (Nat → Int) → (Nat → Int)
  | 0, f => upd f 0 x
  | j + 1, f => if x < f j then ins x j (upd f (j + 1) (f j)) else upd f (j + 1) x
/-- What the array holds behind the rounds 1 to n. -/
def srtTo (f : Nat → Int) : Nat → (Nat → Int)
  | 0 => f
  | n + 1 => ins (srtTo f n (n + 1)) (n + 1) (srtTo f n)

theorem cells12_upd (f : Nat → Int) (k : Nat) (h : k < 12) (v : Int) : (cells12 f).setIfInBounds k (.int .i64 v) = cells12 (upd f k v) := cells12_set f k h v

def firsts (x : Nat → Int) (k i : Nat) : Int := if i < k then x i else 0
theorem firsts_step (x : Nat → Int) (k : Nat) (h : k < 12) : (cells12 (firsts x k)).setIfInBounds k (.int .i64 (x k)) = cells12 (firsts x (k + 1)) := by
  rw [cells12_set _ _ h]
  congr 1
  funext i
  unfold firsts
  by_cases h1 : i = k
  · subst h1; simp
  · by_cases h2 : i < k
    · simp [h1, h2, show i < k + 1 by omega]
    · simp [h1, h2, show ¬ i < k + 1 by omega]
theorem firsts_all (x : Nat → Int) : cells12 (firsts x 12) = cells12 x := rfl

set_option maxRecDepth 100000 in
set_option maxHeartbeats 1000000 in
theorem arr12_any (x : Nat → Int) (g c : Nat) (w : World) (hc : ∀ i, i < 12 → w.cell? ⟨g, i, none⟩ = some (.int .i64 (x i))) :
    Calls Try.prog 8 #[.slice (some ⟨g, 0, none⟩) 12 c] w fun e w' => e = .returned (.agg (cells12 x)) ∧ Below w.heap.size w w' := by
  go_enter Try.func8, Try.ntmps8
  go_wp2_with fail
  go_loopw [4] (fun i wr => ∃ k : Nat, k ≤ 12 ∧ i = .int .i64 k ∧ wr.heap[w.heap.size]? = some (.cells (cells12 fun _ => 0) 22 (0, 0)) ∧ wr.heap[w.heap.size + 1]? = some (.cells (cells12 (firsts x k)) 22 (0, 0)) ∧ Below w.heap.size w wr) (fun i _ => 12 - (intOf i).toNat)
  case atStart =>
    refine ⟨0, by omega, rfl, ?_, ?_, ((Below.refl _ _).alloc (Nat.le_refl _) _).alloc (by simp) _⟩
    · rw [Below.heap_alloc _ _ _ (by simp)]; exact heap_alloc_new w _
    · exact (by simpa only [World.size_alloc] using heap_alloc_new (w.alloc (.cells (cells12 fun _ => 0) 22)) (.cells (cells12 fun _ => 0) 22) : ((w.alloc (.cells (cells12 fun _ => 0) 22)).alloc (.cells (cells12 fun _ => 0) 22)).heap[w.heap.size + 1]? = some (.cells (cells12 fun _ => 0) 22 (0, 0)))
  case round =>
    obtain ⟨k, hk, rfl, hz, hs, hbel⟩ := hrel
    by_cases hlt : k < 12
    · have hc0 := hc k hlt
      have hc1 : wr.cell? ⟨g, k, none⟩ = some (.int .i64 (x k)) := (hbel.cell (World.block_lt_of_cell? w _ hc0)).trans hc0
      have hc3 := cells_at hs k hlt
      have hf3 := free_at hs k
      have R : Hid (∃ W : World, W = (wr.setCell ⟨w.heap.size + 1, k, none⟩ (.int .i64 (x k))) ∧ W.heap[w.heap.size]? = some (.cells (cells12 fun _ => 0) 22 (0, 0)) ∧ W.heap[w.heap.size + 1]? = some (.cells (cells12 (firsts x (k + 1))) 22 (0, 0)) ∧ Below w.heap.size w W) := by
        refine ⟨_, rfl, (Below.heap_setCell _ _ _ _ (by simp)).trans hz, ?_, hbel.setCell (by simp) _⟩
        rw [set_block hs, firsts_step _ _ hlt]
      clear hz hs hbel hc hc0
      go_wp2
      go_roundw
      case rel =>
        obtain ⟨W, rfl, r⟩ := R.out
        exact ⟨k + 1, by omega, by go_num, r⟩
      case measure => simp [intOf]; omega
    · have hk12 : k = 12 := by omega
      subst hk12
      rw [firsts_all] at hs
      have hx := cells_at hs
      have hz0 := cells_at hz
      have hzf := free_at hz
      clear hc hs hz
      go_wp2
      refine bodyPost_ret (v := .agg (cells12 x)) (by simp [results, Try.results8, go_sem, hz0]) rfl ⟨rfl, ?_⟩
      iterate 12 (refine Below.setCell ?_ (by exact Nat.le_refl _) _)
      exact hbel

theorem set12 {wr w : World} {g z : Nat → Int} {B C k : Nat} (hs : wr.heap[B]? = some (.cells (cells12 g) 22 (0, 0))) (hz : wr.heap[C]? = some (.cells (cells12 z) 22 (0, 0))) (hne : C ≠ B) (hb : Below B w wr) (hk : k < 12) (v : Int) :
    ∃ W : World, W = wr.setCell ⟨B, k, none⟩ (.int .i64 v) ∧ W.heap[B]? = some (.cells (cells12 (upd g k v)) 22 (0, 0)) ∧ W.heap[C]? = some (.cells (cells12 z) 22 (0, 0)) ∧ Below B w W := by
  refine ⟨_, rfl, ?_, (Below.heap_setCell _ _ _ _ hne).trans hz, hb.setCell (Nat.le_refl _) _⟩
  rw [set_block hs, cells12_upd _ _ hk]

theorem upd_at (f : Nat → Int) (k : Nat) (v : Int) : upd f k v k = v := by simp [upd]

set_option maxRecDepth 100000 in
set_option maxHeartbeats 1000000 in
theorem sorted12_any (f : Nat → Int) (w : World) :
    Calls Try.prog 7 #[.agg (cells12 f)] w fun e w' => e = .returned (.agg (cells12 (srtTo f 11))) ∧ Below w.heap.size w w' := by
  go_enter Try.func7, Try.ntmps7
  go_wp2_with fail
  go_loopw [3] (fun i wr => ∃ k : Nat, k < 12 ∧ i = .int .i64 ((k : Int) + 1) ∧ wr.heap[w.heap.size]? = some (.cells (cells12 (srtTo f k)) 22 (0, 0)) ∧ wr.heap[w.heap.size + 1]? = some (.cells (cells12 fun _ => 0) 22 (0, 0)) ∧ Below w.heap.size w wr) (fun i _ => 12 - (intOf i).toNat)
  case atStart =>
    refine ⟨0, by omega, rfl, ?_, ?_, ((Below.refl _ _).alloc (Nat.le_refl _) _).alloc (by simp) _⟩
    · rw [Below.heap_alloc _ _ _ (by simp)]; exact heap_alloc_new w _
    · exact (by simpa only [World.size_alloc] using heap_alloc_new (w.alloc (.cells (cells12 f) 22)) (.cells (cells12 fun _ => 0) 22) : ((w.alloc (.cells (cells12 f) 22)).alloc (.cells (cells12 fun _ => 0) 22)).heap[w.heap.size + 1]? = some (.cells (cells12 fun _ => 0) 22 (0, 0)))
  case round =>
    obtain ⟨k, hk, rfl, hs, hz, hbel⟩ := hrel
    by_cases hlt : k < 11
    · have hc3 := cells_at hs (k + 1) (by omega)
      have G : Hid (srtTo f (k + 1) = ins (srtTo f k (k + 1)) (k + 1) (srtTo f k)) := rfl
      have R : Hid (wr.heap[w.heap.size]? = some (.cells (cells12 (srtTo f k)) 22 (0, 0)) ∧ wr.heap[w.heap.size + 1]? = some (.cells (cells12 fun _ => 0) 22 (0, 0)) ∧ Below w.heap.size w wr) := ⟨hs, hz, hbel⟩
      clear hs hz hbel
      generalize srtTo f k (k + 1) = x at *
      generalize srtTo f k = g0 at *
      go_wp2_with fail
      go_loopw [5] (fun i wx => ∃ (j : Nat) (g : Nat → Int), j ≤ k + 1 ∧ i = .int .i64 j ∧ wx.heap[w.heap.size]? = some (.cells (cells12 g) 22 (0, 0)) ∧ wx.heap[w.heap.size + 1]? = some (.cells (cells12 fun _ => 0) 22 (0, 0)) ∧ Below w.heap.size w wx ∧ ins x j g = ins x (k + 1) g0) (fun i _ => (intOf i).toNat)
      case atStart => exact ⟨k + 1, g0, by omega, by go_num, R.out.1, R.out.2.1, R.out.2.2, rfl⟩
      case round =>
        obtain ⟨j, g, hj, rfl, hs, hz, hbel, hins⟩ := hrel
        have I : Hid _ := hins
        clear hins
        cases j with
        | zero =>
          have hc := cells_at hs 0 (by omega)
          have hf := free_at hs 0
          have R2 : Hid _ := set12 hs hz (by omega) hbel (show 0 < 12 by omega) x
          clear hs hz hbel
          go_wp2
          go_roundw
          case rel =>
            obtain ⟨W, rfl, r1, r2, r3⟩ := R2.out
            refine ⟨k + 1, by omega, by go_num, ?_, r2, r3⟩
            rw [G.out, ← I.out]
            exact r1
          case measure => simp [intOf]; omega
        | succ j =>
          have hc := cells_at hs j (by omega)
          have hc2 := cells_at hs (j + 1) (by omega)
          have hf := free_at hs (j + 1)
          by_cases hx : x < g j
          · have R2 : Hid _ := set12 hs hz (by omega) hbel (show j + 1 < 12 by omega) (g j)
            clear hs hz hbel
            have I2 : Hid (ins x j (upd g (j + 1) (g j)) = ins x (k + 1) g0) := by
              have := I.out
              rw [ins, if_pos hx] at this
              exact this
            generalize g j = y at *
            go_wp2
            go_roundw
            case rel =>
              obtain ⟨W, rfl, r1, r2, r3⟩ := R2.out
              exact ⟨j, _, by omega, by go_num, r1, r2, r3, I2.out⟩
            case measure => simp [intOf]
          · have R2 : Hid _ := set12 hs hz (by omega) hbel (show j + 1 < 12 by omega) x
            clear hs hz hbel
            have I2 : Hid (upd g (j + 1) x = ins x (k + 1) g0) := by
              have := I.out
              rw [ins, if_neg hx] at this
              exact this
            generalize g j = y at *
            go_wp2
            go_roundw
            case rel =>
              obtain ⟨W, rfl, r1, r2, r3⟩ := R2.out
              refine ⟨k + 1, by omega, by go_num, ?_, r2, r3⟩
              rw [G.out, ← I2.out]
              exact r1
            case measure => simp [intOf]; omega
    · have hk12 : k = 11 := by omega
      subst hk12
      generalize hE : srtTo f 11 = x at *
      have E : Hid _ := hE
      clear hE
      have hx := cells_at hs
      have hz0 := cells_at hz
      have hzf := free_at hz
      clear hs hz
      go_wp2
      refine bodyPost_ret (v := .agg (cells12 x)) (by simp [results, Try.results7, go_sem, hz0]) rfl ⟨by rw [E.out], ?_⟩
      iterate 12 (refine Below.setCell ?_ (by exact Nat.le_succ _) _)
      exact hbel
end Go.Proofs.Qxb6613359a
