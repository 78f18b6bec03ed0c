import Derived.Test.Qxb6613359aW6b
namespace Go.Proofs.Qxb6613359a
open Go.RowKit

theorem names_filled (k : Nat) (h : k < 12) : (names.getD k ByteArray.empty).toList.isEmpty = false := by
  rw [ByteArray.toList_eq]
  match k, h with
  | 0, _ | 1, _ | 2, _ | 3, _ | 4, _ | 5, _ | 6, _ | 7, _ | 8, _ | 9, _ | 10, _ | 11, _ => rfl
theorem names_apart0 : ∀ k, k < 12 → ∀ j, j < k → ((names.getD j ByteArray.empty).data.toList == (names.getD k ByteArray.empty).data.toList) = false := by decide +kernel
theorem names_apart (k j : Nat) (h : k < 12) (hj : j < k) : ((names.getD j ByteArray.empty).toList == (names.getD k ByteArray.empty).toList) = false := by
  rw [ByteArray.toList_eq, ByteArray.toList_eq]
  exact names_apart0 k h j hj

theorem range_of {w : World} {b : Nat} {x : Nat → Int} (h : ∀ i, i < 12 → w.cell? ⟨b, i, none⟩ = some (.int .i64 (x i))) : w.rangeAt b 0 (cells12 x).toList := by
  intro j v hj
  have hlt : j < 12 := by
    have := (List.getElem?_eq_some_iff.1 hj).1
    simpa using this
  have e := cells12_at x j hlt
  rw [Array.getElem?_toList] at hj
  rw [e] at hj
  rw [Nat.zero_add, h j hlt, hj]
theorem of_range {w : World} {b : Nat} {x : Nat → Int} (h : w.rangeAt b 0 (cells12 x).toList) : ∀ i, i < 12 → w.cell? ⟨b, i, none⟩ = some (.int .i64 (x i)) := by
  intro i hi
  have := h i (.int .i64 (x i)) (by rw [Array.getElem?_toList]; exact cells12_at x i hi)
  simpa using this
theorem one12 (x : Nat → Int) : ∀ v ∈ (cells12 x).toList, v.oneCell' = true := by
  intro v hv
  simp at hv
  rcases hv with rfl | rfl | rfl | rfl | rfl | rfl | rfl | rfl | rfl | rfl | rfl | rfl <;> rfl
theorem held_next {w W W' : World} {a b : Nat → Int} {A B ga gb : Nat} (h : W.rangeAt A 0 (cells12 a).toList ∧ W.rangeAt B 0 (cells12 b).toList ∧ (∀ i, i < 12 → W.cell? ⟨ga, i, none⟩ = some (.int .i64 (a i))) ∧ (∀ i, i < 12 → W.cell? ⟨gb, i, none⟩ = some (.int .i64 (b i))) ∧ Below w.heap.size w W) (hb : Below W.heap.size W W') :
    W'.rangeAt A 0 (cells12 a).toList ∧ W'.rangeAt B 0 (cells12 b).toList ∧ (∀ i, i < 12 → W'.cell? ⟨ga, i, none⟩ = some (.int .i64 (a i))) ∧ (∀ i, i < 12 → W'.cell? ⟨gb, i, none⟩ = some (.int .i64 (b i))) ∧ Below w.heap.size w W' := by
  obtain ⟨h1, h2, h3, h4, h5⟩ := h
  exact ⟨range_of (cells_below (of_range h1) hb), range_of (cells_below (of_range h2) hb), cells_below h3 hb, cells_below h4 hb, below_next h5 hb⟩
theorem held_va {w W : World} {a b : Nat → Int} {A B ga gb : Nat} (h : W.rangeAt A 0 (cells12 a).toList ∧ W.rangeAt B 0 (cells12 b).toList ∧ (∀ i, i < 12 → W.cell? ⟨ga, i, none⟩ = some (.int .i64 (a i))) ∧ (∀ i, i < 12 → W.cell? ⟨gb, i, none⟩ = some (.int .i64 (b i))) ∧ Below w.heap.size w W) : ∀ i, i < 12 → W.cell? ⟨ga, i, none⟩ = some (.int .i64 (a i)) := h.2.2.1
theorem held_vb {w W : World} {a b : Nat → Int} {A B ga gb : Nat} (h : W.rangeAt A 0 (cells12 a).toList ∧ W.rangeAt B 0 (cells12 b).toList ∧ (∀ i, i < 12 → W.cell? ⟨ga, i, none⟩ = some (.int .i64 (a i))) ∧ (∀ i, i < 12 → W.cell? ⟨gb, i, none⟩ = some (.int .i64 (b i))) ∧ Below w.heap.size w W) : ∀ i, i < 12 → W.cell? ⟨gb, i, none⟩ = some (.int .i64 (b i)) := h.2.2.2.1
theorem held_drew {w W : World} {a b : Nat → Int} {A B ga gb : Nat} (h : W.rangeAt A 0 (cells12 a).toList ∧ W.rangeAt B 0 (cells12 b).toList ∧ (∀ i, i < 12 → W.cell? ⟨ga, i, none⟩ = some (.int .i64 (a i))) ∧ (∀ i, i < 12 → W.cell? ⟨gb, i, none⟩ = some (.int .i64 (b i))) ∧ Below w.heap.size w W) :
    W.drew.rangeAt A 0 (cells12 a).toList ∧ W.drew.rangeAt B 0 (cells12 b).toList ∧ (∀ i, i < 12 → W.drew.cell? ⟨ga, i, none⟩ = some (.int .i64 (a i))) ∧ (∀ i, i < 12 → W.drew.cell? ⟨gb, i, none⟩ = some (.int .i64 (b i))) ∧ Below w.heap.size w W.drew :=
  held_next h ⟨rfl, rfl, rfl, Nat.le_refl _, fun _ _ => rfl⟩

set_option maxRecDepth 100000 in
set_option maxHeartbeats 1000000 in
theorem once_any (a b : Nat → Int) (w : World) :
    Calls Try.prog 4 #[.agg (cells12 a), .agg (cells12 b)] w fun e w' => e = .returned (.bool true) ∧ Below w.heap.size w w' := by
  have o1 := heap_alloc_new w (.cells (cells12 a) 22)
  have o2 := heap_alloc_new (w.alloc (.cells (cells12 a) 22)) (.cells (cells12 b) 22)
  have hA : ∀ i, i < 12 → ((w.alloc (.cells (cells12 a) 22)).alloc (.cells (cells12 b) 22)).cell? ⟨w.heap.size, i, none⟩ = some (.int .i64 (a i)) := cells_at (by rw [Below.heap_alloc _ _ _ (by simp)]; exact o1)
  have hB : ∀ i, i < 12 → ((w.alloc (.cells (cells12 a) 22)).alloc (.cells (cells12 b) 22)).cell? ⟨w.heap.size + 1, i, none⟩ = some (.int .i64 (b i)) := cells_at (by simpa using o2)
  have hbel : Below w.heap.size w ((w.alloc (.cells (cells12 a) 22)).alloc (.cells (cells12 b) 22)) := ((Below.refl _ _).alloc (Nat.le_refl _) _).alloc (by simp) _
  have H0 : Hid _ := And.intro hA (And.intro hB hbel)
  clear o1 o2 hA hB hbel
  go_enter Try.func4, Try.ntmps4
  go_wp2_with fail
  refine (counts_any a _).mono ?_
  rintro e w1 ⟨rfl, hb1⟩
  go_wp2_with fail
  refine (zzeach_any a _).mono ?_
  rintro e w2 ⟨gna, cna, gva, cva, rfl, hna, hva, hb2⟩
  obtain ⟨hA, hB, hbel⟩ := H0.out
  have hB2 := cells_below (cells_below hB hb1) hb2
  have hA2 := cells_below (cells_below hA hb1) hb2
  have bel2 := below_next (below_next hbel hb1) hb2
  clear hA hB hb1 hb2 hbel H0
  go_wp2_with fail
  refine (counts_any b _).mono ?_
  rintro e w3 ⟨rfl, hb3⟩
  go_wp2_with fail
  refine (zzeach_any b _).mono ?_
  rintro e w4 ⟨gnb, cnb, gvb, cvb, rfl, hnb, hvb, hb4⟩
  have CC : Hid ((∀ i, i < 12 → w4.cell? ⟨w.heap.size, i, none⟩ = some (.int .i64 (a i))) ∧ (∀ i, i < 12 → w4.cell? ⟨w.heap.size + 1, i, none⟩ = some (.int .i64 (b i))) ∧ (∀ i, i < 12 → w4.cell? ⟨gna, i, none⟩ = some (.string (names.getD i ByteArray.empty))) ∧ (∀ i, i < 12 → w4.cell? ⟨gva, i, none⟩ = some (.int .i64 (a i))) ∧ (∀ i, i < 12 → w4.cell? ⟨gnb, i, none⟩ = some (.string (names.getD i ByteArray.empty))) ∧ (∀ i, i < 12 → w4.cell? ⟨gvb, i, none⟩ = some (.int .i64 (b i))) ∧ Below w.heap.size w w4) :=
    ⟨cells_below (cells_below hA2 hb3) hb4, cells_below (cells_below hB2 hb3) hb4, nms_cell (owns_below (owns_below hna hb3) hb4), vals_cell (owns_below (owns_below hva hb3) hb4), nms_cell hnb, vals_cell hvb, below_next (below_next bel2 hb3) hb4⟩
  clear hA2 hB2 hb3 hb4 hna hva bel2 hnb hvb
  go_wp2_with fail
  go_loopw [9] (fun i wx => ∃ (k : Nat) (nq : Nat), k ≤ 12 ∧ i = .int .i64 k ∧ wx = w4.drewN nq) (fun i _ => 12 - (intOf i).toNat)
  case atStart => exact ⟨0, 0, by omega, rfl, rfl⟩
  case round =>
    obtain ⟨k, nq, hk, rfl, rfl⟩ := hrel
    by_cases hlt : k < 12
    · obtain ⟨_, _, f3, _, f5, _, _⟩ := CC.out
      replace f3 := f3 k hlt
      replace f5 := f5 k hlt
      have hnf := names_filled k hlt
      have HD : Hid (∀ j, j < k → ((names.getD j ByteArray.empty).toList == (names.getD k ByteArray.empty).toList) = false) := fun j hj => names_apart k j hlt hj
      generalize names.getD k ByteArray.empty = nm at *
      go_wp2_with fail
      go_quiet (fail)
      go_wp2_with fail
      clear f5 hnf
      go_loopw [10] (fun i wx => ∃ (j : Nat) (mq : Nat), j ≤ k ∧ i = .int .i64 j ∧ wx = w4.drewN mq) (fun i _ => k - (intOf i).toNat)
      case atStart => exact ⟨0, _, by omega, rfl, World.drewN_drewN _ _ _⟩
      case round =>
        obtain ⟨j, mq, hj, rfl, rfl⟩ := hrel
        by_cases hjk : j < k
        · have f4 := CC.out.2.2.1 j (by omega)
          have hd := HD.out j hjk
          generalize names.getD j ByteArray.empty = nj at *
          go_wp2_with fail
          go_quiet (fail)
          go_wp2
          go_roundw
          case rel => exact ⟨j + 1, _, by omega, by go_num, rfl⟩
          case measure => simp [intOf]; omega
        · go_wp2
          go_roundw
          case rel => exact ⟨k + 1, _, by omega, by go_num, rfl⟩
          case measure => simp [intOf]; omega
    · have hE := run_same12
      obtain ⟨W5, hW5, C5⟩ : ∃ W5, w4.drewN nq = W5 ∧ Hid (W5.rangeAt w.heap.size 0 (cells12 a).toList ∧ W5.rangeAt (w.heap.size + 1) 0 (cells12 b).toList ∧ (∀ i, i < 12 → W5.cell? ⟨gva, i, none⟩ = some (.int .i64 (a i))) ∧ (∀ i, i < 12 → W5.cell? ⟨gvb, i, none⟩ = some (.int .i64 (b i))) ∧ Below w.heap.size w W5) := by
        obtain ⟨f1, f2, f3, f4, f5, f6, f7⟩ := CC.out
        exact ⟨_, rfl, range_of f1, range_of f2, f4, f6, f7.trans ⟨rfl, rfl, rfl, Nat.le_refl _, fun _ _ => rfl⟩⟩
      clear CC
      rw [hW5]
      clear hW5
      go_wp2_with fail
      have hu := Try.underlying22
      have hi : (Try.prog.info? 22).map (·.size) = some (cells12 a).toList.length := by kernel_rfl
      have hl : (cells12 a).toList.length = 12 := rfl
      have h1 : ∀ v ∈ (cells12 a).toList, v.oneCell' = true := one12 a
      obtain ⟨q1, q2, q3, q4, q5⟩ := C5.out
      go_region_held3 (fun W => W.rangeAt w.heap.size 0 (cells12 a).toList ∧ W.rangeAt (w.heap.size + 1) 0 (cells12 b).toList ∧ (∀ i, i < 12 → W.cell? ⟨gva, i, none⟩ = some (.int .i64 (a i))) ∧ (∀ i, i < 12 → W.cell? ⟨gvb, i, none⟩ = some (.int .i64 (b i))) ∧ Below w.heap.size w W) (first | exact held_next ‹_› ‹_› | exact held_drew ‹_›)
        (first
          | (go_at_call 8; refine (arr12_any a _ _ _ ?_).mono ?_; (exact held_va ‹_›); rintro e w' ⟨rfl, hb'⟩)
          | (go_at_call 7; refine (sorted12_any a _).mono ?_; rintro e w' ⟨rfl, hb'⟩))
      have C6 : Hid (w'.rangeAt w.heap.size 0 (cells12 a).toList ∧ w'.rangeAt (w.heap.size + 1) 0 (cells12 b).toList ∧ (∀ i, i < 12 → w'.cell? ⟨gva, i, none⟩ = some (.int .i64 (a i))) ∧ (∀ i, i < 12 → w'.cell? ⟨gvb, i, none⟩ = some (.int .i64 (b i))) ∧ Below w.heap.size w w') := by assumption
      clear q1 q2 q3 q4 q5 hu hi hl h1 C5
      go_wp2_with fail
      have hu := Try.underlying22
      have hi : (Try.prog.info? 22).map (·.size) = some (cells12 b).toList.length := by kernel_rfl
      have hl : (cells12 b).toList.length = 12 := rfl
      have h1 : ∀ v ∈ (cells12 b).toList, v.oneCell' = true := one12 b
      obtain ⟨q1, q2, q3, q4, q5⟩ := C6.out
      go_region_held3 (fun W => W.rangeAt w.heap.size 0 (cells12 a).toList ∧ W.rangeAt (w.heap.size + 1) 0 (cells12 b).toList ∧ (∀ i, i < 12 → W.cell? ⟨gva, i, none⟩ = some (.int .i64 (a i))) ∧ (∀ i, i < 12 → W.cell? ⟨gvb, i, none⟩ = some (.int .i64 (b i))) ∧ Below w.heap.size w W) (first | exact held_next ‹_› ‹_› | exact held_drew ‹_›)
        (first
          | (go_at_call 8; refine (arr12_any b _ _ _ ?_).mono ?_; (exact held_vb ‹_›); rintro e w' ⟨rfl, hb'⟩)
          | (go_at_call 7; refine (sorted12_any b _).mono ?_; rintro e w' ⟨rfl, hb'⟩))
      have C7 : Hid (w'.rangeAt w.heap.size 0 (cells12 a).toList ∧ w'.rangeAt (w.heap.size + 1) 0 (cells12 b).toList ∧ (∀ i, i < 12 → w'.cell? ⟨gva, i, none⟩ = some (.int .i64 (a i))) ∧ (∀ i, i < 12 → w'.cell? ⟨gvb, i, none⟩ = some (.int .i64 (b i))) ∧ Below w.heap.size w w') := by assumption
      clear q1 q2 q3 q4 q5 hu hi hl h1 C6
      go_wp2_with fail
      clear hE
      generalize hsm : (fun k => (List.range k).all fun i => a i == b i) = sm
      have hs0 : sm 0 = true := by rw [← hsm]; rfl
      have HS : Hid ((∀ k, sm (k + 1) = (sm k && (a k == b k))) ∧ (∀ w, (Op.equalIn 10000 22 (.agg (cells12 a)) (.agg (cells12 b))).run Try.prog w = .ok (sm 12) w)) := by
        subst hsm
        exact ⟨fun k => by simp [List.range_succ], fun w => run_eq12 a b w⟩
      have Hs0 : Hid (sm 0 = true) := hs0
      clear hsm hs0
      go_loopw [11, 12] (fun s i wx => ∃ (k nq : Nat), k ≤ 12 ∧ i = .int .i64 k ∧ s = .bool (sm k) ∧ wx = w'.drewN nq) (fun _ i _ => 12 - (intOf i).toNat)
      case atStart => exact ⟨0, 0, by omega, rfl, by rw [Hs0.out], rfl⟩
      case round =>
        obtain ⟨k', nq', hk', rfl, rfl, rfl⟩ := hrel
        by_cases hlt' : k' < 12
        · have f1 := C7.out.2.2.1 k' hlt'
          have f2 := C7.out.2.2.2.1 k' hlt'
          have HS2 : Hid _ := HS.out.1 k'
          cases hab : a k' == b k'
          · have hne : (!(a k' == b k')) = true := by simp [hab]
            rw [hab] at HS2
            go_wp2_with fail
            go_quiet (fail)
            go_wp2
            go_roundw
            case rel => exact ⟨k' + 1, _, by omega, by go_num, by rw [HS2.out]; simp, rfl⟩
            case measure => simp [intOf]; omega
          · rw [hab] at HS2
            go_wp2_with fail
            go_quiet (fail)
            go_wp2
            go_roundw
            case rel => exact ⟨k' + 1, _, by omega, by go_num, by rw [HS2.out]; simp, rfl⟩
            case measure => simp [intOf]; omega
        · have hk12 : k' = 12 := by omega
          subst hk12
          have hA := of_range C7.out.1
          have hB := of_range C7.out.2.1
          have hbel := C7.out.2.2.2.2
          have hEq := HS.out.2
          clear C7 HS
          generalize sm 12 = s at *
          go_wp2
          go_ret
          exact ⟨by simp, hbel.trans ⟨rfl, rfl, rfl, Nat.le_refl _, fun _ _ => rfl⟩⟩
end Go.Proofs.Qxb6613359a
