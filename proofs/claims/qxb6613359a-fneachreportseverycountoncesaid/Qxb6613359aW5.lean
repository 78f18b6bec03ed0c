import Derived.Test.Qxb6613359aW4
namespace Go.Proofs.Qxb6613359a
open Go.RowKit

def sums (a b : Nat → Int) (k i : Nat) : Int := if i < k then wrap64 (a i + b i) else 0

theorem cells12_set (f : Nat → Int) (k : Nat) (h : k < 12) (v : Int) : (cells12 f).setIfInBounds k (.int .i64 v) = cells12 (fun i => if i = k then v else f i) := by
  match k, h with
  | 0, _ | 1, _ | 2, _ | 3, _ | 4, _ | 5, _ | 6, _ | 7, _ | 8, _ | 9, _ | 10, _ | 11, _ => rfl
theorem sums_step (a b : Nat → Int) (k : Nat) (h : k < 12) : (cells12 (sums a b k)).setIfInBounds k (.int .i64 (wrap64 (a k + b k))) = cells12 (sums a b (k + 1)) := by
  rw [cells12_set _ _ h]
  congr 1
  funext i
  unfold sums
  by_cases h1 : i = k
  · subst h1; simp
  · by_cases h2 : i < k
    · simp [h1, h2, show i < k + 1 by omega]
    · simp [h1, h2, show ¬ i < k + 1 by omega]
theorem sums_zero (a b : Nat → Int) : cells12 (sums a b 0) = #[.int .i64 0, .int .i64 0, .int .i64 0, .int .i64 0, .int .i64 0, .int .i64 0, .int .i64 0, .int .i64 0, .int .i64 0, .int .i64 0, .int .i64 0, .int .i64 0] := rfl

theorem owns_below {w w' : World} {base : Nat} {e : TypeId} {v : Value} {n : Nat} {xs : List Value} (h : w.ownsRow base e 1 v n xs) (hb : Below w.heap.size w w') : w'.ownsRow base e 1 v n xs := by
  obtain ⟨h1, h2⟩ := h
  refine ⟨h1, ?_⟩
  rcases h2 with h2 | ⟨g, cap, cur, hv, hg, hh, r⟩
  · exact .inl h2
  · exact .inr ⟨g, cap, cur, hv, hg, (hb.block g (lt_of_block hh)).trans hh, r⟩

theorem cells_at {w : World} {b : Nat} {x : Nat → Int} {t : TypeId} (h : w.heap[b]? = some (.cells (cells12 x) t (0, 0))) : ∀ i, i < 12 → w.cell? ⟨b, i, none⟩ = some (.int .i64 (x i)) := fun i hi => cell_at h (cells12_at x i hi)
theorem free_at {w : World} {b : Nat} {c : Array Value} {t : TypeId} (h : w.heap[b]? = some (.cells c t (0, 0))) (i : Nat) : w.frozen? ⟨b, i, none⟩ = false := by simp [World.frozen?, h]

theorem set_block {w : World} {b k : Nat} {c : Array Value} {t : TypeId} (h : w.heap[b]? = some (.cells c t (0, 0))) (v : Value) : (w.setCell ⟨b, k, none⟩ v).heap[b]? = some (.cells (c.setIfInBounds k v) t (0, 0)) := by
  exact heap_setCell_same w b k c t v h

theorem cells_below {w w' : World} {b : Nat} {x : Nat → Int} (h : ∀ i, i < 12 → w.cell? ⟨b, i, none⟩ = some (.int .i64 (x i))) (hb : Below w.heap.size w w') : ∀ i, i < 12 → w'.cell? ⟨b, i, none⟩ = some (.int .i64 (x i)) := by
  intro i hi
  rw [hb.cell (World.block_lt_of_cell? w _ (h i hi)), h i hi]
theorem below_next {W w w' : World} (h : Below W.heap.size W w) (hb : Below w.heap.size w w') : Below W.heap.size W w' := h.trans (hb.mono h.size)
theorem vals_at (x : Nat → Int) (k : Nat) (h : k < 12) : (vals x 12)[k]? = some (.int .i64 (x k)) := by simp [vals, h]
theorem nms_at (k : Nat) (h : k < 12) : (nms 12)[k]? = some (.string (names.getD k ByteArray.empty)) := by
  match k, h with
  | 0, _ | 1, _ | 2, _ | 3, _ | 4, _ | 5, _ | 6, _ | 7, _ | 8, _ | 9, _ | 10, _ | 11, _ => rfl
theorem vals_cell {w : World} {base g c : Nat} {x : Nat → Int} (h : w.ownsRow base 3 1 (.slice (some ⟨g, 0, none⟩) 12 c) 12 (vals x 12)) : ∀ i, i < 12 → w.cell? ⟨g, i, none⟩ = some (.int .i64 (x i)) := fun i hi => (h.cellAt i (by omega)).trans (vals_at x i hi)
theorem nms_cell {w : World} {base g c : Nat} (h : w.ownsRow base 9 1 (.slice (some ⟨g, 0, none⟩) 12 c) 12 (nms 12)) : ∀ i, i < 12 → w.cell? ⟨g, i, none⟩ = some (.string (names.getD i ByteArray.empty)) := fun i hi => (h.cellAt i (by omega)).trans (nms_at i hi)

set_option maxRecDepth 100000 in
set_option maxHeartbeats 1000000 in
theorem additive_any (a b : Nat → Int) (w : World) :
    Calls Try.prog 3 #[.agg (cells12 a), .agg (cells12 b)] w fun e w' => e = .returned (.bool true) ∧ Below w.heap.size w w' := by
  go_enter Try.func3, Try.ntmps3
  go_wp2_with fail
  go_loopw [6] (fun i wr => ∃ k : Nat, k ≤ 12 ∧ i = .int .i64 k ∧ wr.heap[w.heap.size]? = some (.cells (cells12 a) 22 (0, 0)) ∧ wr.heap[w.heap.size + 1]? = some (.cells (cells12 b) 22 (0, 0)) ∧ wr.heap[w.heap.size + 2]? = some (.cells (cells12 (sums a b k)) 22 (0, 0)) ∧ Below w.heap.size w wr) (fun i _ => 12 - (intOf i).toNat)
  case atStart =>
    have o1 := heap_alloc_new w (.cells (cells12 a) 22)
    have o2 := heap_alloc_new (w.alloc (.cells (cells12 a) 22)) (.cells (cells12 b) 22)
    have o3 := heap_alloc_new ((w.alloc (.cells (cells12 a) 22)).alloc (.cells (cells12 b) 22)) (.cells (cells12 (sums a b 0)) 22)
    refine ⟨0, by omega, rfl, ?_, ?_, ?_, (((Below.refl _ _).alloc (Nat.le_refl _) _).alloc (by simp) _).alloc (by simp; omega) _⟩
    · rw [Below.heap_alloc _ _ _ (by simp; omega), Below.heap_alloc _ _ _ (by simp)]; exact o1
    · rw [Below.heap_alloc _ _ _ (by simp)]; simpa using o2
    · rw [← sums_zero a b]; simpa only [World.size_alloc, Nat.add_assoc] using o3
  case round =>
    obtain ⟨k, hk, rfl, ha, hb, hs, hbel⟩ := hrel
    by_cases hlt : k < 12
    · have hc1 := cells_at ha k hlt
      have hc2 := cells_at hb k hlt
      have hc3 := cells_at hs k hlt
      have hf3 := free_at hs k
      have R : Hid (∃ W : World, W = (wr.setCell ⟨w.heap.size + 2, k, none⟩ (.int .i64 (wrap64 (a k + b k)))) ∧ W.heap[w.heap.size]? = some (.cells (cells12 a) 22 (0, 0)) ∧ W.heap[w.heap.size + 1]? = some (.cells (cells12 b) 22 (0, 0)) ∧ W.heap[w.heap.size + 2]? = some (.cells (cells12 (sums a b (k + 1))) 22 (0, 0)) ∧ Below w.heap.size w W) := by
        refine ⟨_, rfl, (Below.heap_setCell _ _ _ _ (by simp)).trans ha, (Below.heap_setCell _ _ _ _ (by simp)).trans hb, ?_, hbel.setCell (by simp) _⟩
        rw [set_block hs, sums_step _ _ _ hlt]
      clear ha hb hs hbel
      go_wp2_with fail
      go_region
      all_goals (try go_wp2)
      all_goals go_roundw
      case rel => 
        obtain ⟨W, rfl, r⟩ := R.out
        exact ⟨k + 1, by omega, by go_num, r.1, r.2.1, r.2.2.1, r.2.2.2.trans ⟨rfl, rfl, rfl, Nat.le_refl _, fun _ _ => rfl⟩⟩
      case measure => simp [intOf]; omega
    · have hk12 : k = 12 := by omega
      subst hk12
      obtain ⟨t, hA, hB, hS, HT⟩ : ∃ t : Nat → Int, (∀ i, i < 12 → wr.cell? ⟨w.heap.size, i, none⟩ = some (.int .i64 (a i))) ∧ (∀ i, i < 12 → wr.cell? ⟨w.heap.size + 1, i, none⟩ = some (.int .i64 (b i))) ∧ (∀ i, i < 12 → wr.cell? ⟨w.heap.size + 1 + 1, i, none⟩ = some (.int .i64 (t i))) ∧ Hid (∀ i, i < 12 → t i = wrap64 (a i + b i)) :=
        ⟨sums a b 12, cells_at ha, cells_at hb, cells_at hs, fun i hi => by simp [sums, hi]⟩
      clear ha hb hs
      go_wp2_with fail
      refine (counts_any a _).mono ?_
      rintro e w1 ⟨rfl, hb1⟩
      go_wp2_with fail
      refine (zzeach_any a _).mono ?_
      rintro e w2 ⟨gna, cna, gva, cva, rfl, hna, hva, hb2⟩
      have hB2 := cells_below (cells_below hB hb1) hb2
      have hS2 := cells_below (cells_below hS hb1) hb2
      have hA2 := cells_below (cells_below hA hb1) hb2
      have bel2 := below_next (below_next hbel hb1) hb2
      clear hA hB hS hb1 hb2 hbel
      go_wp2_with fail
      refine (counts_any b _).mono ?_
      rintro e w3 ⟨rfl, hb3⟩
      go_wp2_with fail
      refine (zzeach_any b _).mono ?_
      rintro e w4 ⟨gnb, cnb, gvb, cvb, rfl, hnb, hvb, hb4⟩
      have hS4 := cells_below (cells_below hS2 hb3) hb4
      have hA4 := cells_below (cells_below hA2 hb3) hb4
      have hna4 := owns_below (owns_below hna hb3) hb4
      have hva4 := owns_below (owns_below hva hb3) hb4
      have bel4 := below_next (below_next bel2 hb3) hb4
      clear hA2 hB2 hS2 hb3 hb4 hna hva bel2
      go_wp2_with fail
      refine (counts_any t _).mono ?_
      rintro e w5 ⟨rfl, hb5⟩
      go_wp2_with fail
      refine (zzeach_any t _).mono ?_
      rintro e w6 ⟨gns, cns, gvs, cvs, rfl, hns, hvs, hb6⟩
      have hA6 := cells_below (cells_below hA4 hb5) hb6
      have cna6 := nms_cell (owns_below (owns_below hna4 hb5) hb6)
      have cva6 := vals_cell (owns_below (owns_below hva4 hb5) hb6)
      have cnb6 := nms_cell (owns_below (owns_below hnb hb5) hb6)
      have cvb6 := vals_cell (owns_below (owns_below hvb hb5) hb6)
      have cns6 := nms_cell hns
      have cvs6 := vals_cell hvs
      have bel6 := below_next (below_next bel4 hb5) hb6
      clear hA4 hS4 hb5 hb6 hna4 hva4 hnb hvb hns hvs bel4
      have CC : Hid _ := And.intro hA6 (And.intro cna6 (And.intro cva6 (And.intro cnb6 (And.intro cvb6 (And.intro cns6 (And.intro cvs6 bel6))))))
      clear hA6 cna6 cva6 cnb6 cvb6 cns6 cvs6 bel6
      go_wp2_with fail
      go_loopw [13, 14, 15] (fun p q i wx => ∃ (k : Nat) (z : Int) (nq : Nat), k ≤ 12 ∧ i = .int .i64 k ∧ p = .int .i64 z ∧ q = .int .i64 z ∧ wx = w6.drewN nq) (fun _ _ i _ => 12 - (intOf i).toNat)
      case atStart => exact ⟨0, 0, 0, by omega, rfl, rfl, rfl, rfl⟩
      case round =>
        obtain ⟨k, z, nq, hk', rfl, rfl, rfl, rfl⟩ := hrel
        by_cases hlt' : k < 12
        · obtain ⟨f1, f2, f3, f4, f5, f6, f7, _⟩ := CC.out
          replace f1 := f1 k hlt'
          replace f2 := f2 k hlt'
          replace f3 := f3 k hlt'
          replace f4 := f4 k hlt'
          replace f5 := f5 k hlt'
          replace f6 := f6 k hlt'
          replace f7 := f7 k hlt'
          rw [HT.out k hlt'] at f7
          generalize names.getD k ByteArray.empty = nm at *
          go_wp2_with fail
          go_quiet (fail)
          go_wp2_with fail
          go_quiet (fail)
          go_wp2
          go_roundw
          case rel => exact ⟨k + 1, _, _, by omega, by go_num, rfl, rfl, rfl⟩
          case measure => simp [intOf]; omega
        · have bel := CC.out.2.2.2.2.2.2.2
          clear CC
          go_wp2
          go_ret
          exact ⟨by simp, bel.trans ⟨rfl, rfl, rfl, Nat.le_refl _, fun _ _ => rfl⟩⟩
end Go.Proofs.Qxb6613359a
