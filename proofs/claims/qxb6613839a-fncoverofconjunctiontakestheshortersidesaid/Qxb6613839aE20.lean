import Derived.Test.Qxb6613839aE12
namespace Go.Proofs.Qxb6613839a
open Go.RowKit
set_option linter.unusedVariables false
set_option linter.unusedSimpArgs false
attribute [local go_sem] hit65 hit56 hit60 hit69 hit68 hit4 hit9 miss65 miss56 miss85 miss60 miss88 miss68 look_nil meth65 meth68 meth69 meth60 meth56 eval65 eval56

set_option maxRecDepth 100000 in
set_option maxHeartbeats 2000000 in
theorem join_tf {A B : TypeId} {va vb : Value} {la lb : Tm} {ok : Bool} (ha : Cov A va true la false) (hb : Cov B vb true lb ok) (hl : la.length + lb.length ≤ 100000) (w : World) :
    Calls Try.prog 29 #[.iface A va, .iface B vb, .bool true, .bool true, costV] w (CovAt w (la ++ lb) false) := by
  have Ha := hid (fun w => ha w)
  have Hb := hid (fun w => hb w)
  clear ha hb
  go_enter Try.func29, Try.ntmps29
  go_wp2_with fail
  refine (Ha.out _).mono ?_
  rintro e w1 ⟨a, na, ca, rfl, hva, hb1⟩
  have VA := hid hva
  have B1 := hid hb1
  clear hva hb1 Ha
  go_wp2_with fail
  refine (Hb.out _).mono ?_
  rintro e w2 ⟨b, nb, cb, rfl, hvb, hb2⟩
  have J := hid (joined_mk (ib := .int .i64 lb.length) VA.out B1.out hvb hb2)
  clear hvb hb2 Hb VA B1
  go_wp2_with fail
  obtain ⟨W, hW⟩ : ∃ W, w2.alloc (.cells #[.slice b nb cb, .int .i64 lb.length] 79) = W := ⟨_, rfl⟩
  rw [hW] at J
  rw [hW]
  clear hW
  generalize w1.heap.size = pa at *
  generalize w2.heap.size = pb at *
  obtain ⟨c1, c2, f1, f2, c3, c4, c5, c6⟩ := J.out.cells
  have hne := J.out.ne
  have JD := hid (J.out.below (W' := W.drew) ⟨rfl, rfl, rfl, Nat.le_refl _, fun _ _ => rfl⟩)
  refine wp_region_held_drew (S := (fun X => X.cell? ⟨pa, 0, none⟩ = some (.slice a na ca) ∧ X.cell? ⟨pa, 1, none⟩ = some (.int .i64 la.length) ∧ X.cell? ⟨pb, 0, none⟩ = some (.slice b nb cb) ∧ X.cell? ⟨pb, 1, none⟩ = some (.int .i64 lb.length))) (by kernel_rfl) ?_ (fun hHeld => ?_)
  · exact ⟨c3, c4, c5, c6⟩
  refine wpAnyH_take (i := 0) (oi := _) (v := ?_) rfl (by kernel_rfl) (by kernel_rfl) (by kernel_rfl) (fun _ _ _ h => h) (Or.inl ⟨by rfl, ?_⟩) (by assumption) ?_
  rotate_left
  · intro w hSw
    (try dsimp only at hSw)
    go_simp
    (try with_reducible rfl)
  (try simp only [Act.put, List.setIfInBounds_toArray, List.set_cons_zero, List.set_cons_succ])
  refine wpAnyH_take (i := 1) (oi := _) (v := ?_) rfl (by kernel_rfl) (by kernel_rfl) (by kernel_rfl) (fun _ _ _ h => h) (Or.inl ⟨by rfl, ?_⟩) (by assumption) ?_
  rotate_left
  · intro w hSw
    (try dsimp only at hSw)
    go_simp
    (try with_reducible rfl)
  (try simp only [Act.put, List.setIfInBounds_toArray, List.set_cons_zero, List.set_cons_succ])
  refine wpAnyH_take (i := 2) (oi := _) (v := ?_) rfl (by kernel_rfl) (by kernel_rfl) (by kernel_rfl) (fun _ _ _ h => h) (Or.inl ⟨by rfl, ?_⟩) (by assumption) ?_
  rotate_left
  · intro w hSw
    (try dsimp only at hSw)
    go_simp
    (try with_reducible rfl)
  (try simp only [Act.put, List.setIfInBounds_toArray, List.set_cons_zero, List.set_cons_succ])
  refine wpAnyH_take (i := 3) (oi := _) (v := ?_) rfl (by kernel_rfl) (by kernel_rfl) (by kernel_rfl) (fun _ _ _ h => h) (Or.inl ⟨by rfl, ?_⟩) (by assumption) ?_
  rotate_left
  · intro w hSw
    (try dsimp only at hSw)
    go_simp
    (try with_reducible rfl)
  (try simp only [Act.put, List.setIfInBounds_toArray, List.set_cons_zero, List.set_cons_succ])
  refine wpAnyH_take (i := 6) (oi := _) (v := ?_) rfl (by kernel_rfl) (by kernel_rfl) (by kernel_rfl) (fun _ _ _ h => h) (Or.inl ⟨by rfl, ?_⟩) (by assumption) ?_
  rotate_left
  · intro w hSw
    (try dsimp only at hSw)
    go_simp
    (try with_reducible rfl)
  (try simp only [Act.put, List.setIfInBounds_toArray, List.set_cons_zero, List.set_cons_succ])
  refine wpAnyH_take (i := 7) (oi := _) (v := ?_) rfl (by kernel_rfl) (by kernel_rfl) (by kernel_rfl) (fun _ _ _ h => h) (Or.inl ⟨by rfl, ?_⟩) (by assumption) ?_
  rotate_left
  · intro w hSw
    (try dsimp only at hSw)
    go_simp
    (try with_reducible rfl)
  (try simp only [Act.put, List.setIfInBounds_toArray, List.set_cons_zero, List.set_cons_succ])
  refine wpAnyH_take (i := 8) (oi := _) (v := ?_) rfl (by kernel_rfl) (by kernel_rfl) (by kernel_rfl) (fun _ _ _ h => h) (Or.inl ⟨by rfl, ?_⟩) (by assumption) ?_
  rotate_left
  · intro w hSw
    (try dsimp only at hSw)
    go_simp
    (try with_reducible rfl)
  (try simp only [Act.put, List.setIfInBounds_toArray, List.set_cons_zero, List.set_cons_succ])
  refine wpAnyH_take (i := 9) (oi := _) (v := ?_) rfl (by kernel_rfl) (by kernel_rfl) (by kernel_rfl) (fun _ _ _ h => h) (Or.inl ⟨by rfl, ?_⟩) (by assumption) ?_
  rotate_left
  · intro w hSw
    (try dsimp only at hSw)
    go_simp
    (try with_reducible rfl)
  (try simp only [Act.put, List.setIfInBounds_toArray, List.set_cons_zero, List.set_cons_succ])
  refine wpAnyH_take (i := 10) (oi := _) (v := ?_) rfl (by kernel_rfl) (by kernel_rfl) (by kernel_rfl) (fun _ _ _ h => h) (Or.inl ⟨by rfl, ?_⟩) (by assumption) ?_
  rotate_left
  · intro w hSw
    (try dsimp only at hSw)
    go_simp
    (try with_reducible rfl)
  (try simp only [Act.put, List.setIfInBounds_toArray, List.set_cons_zero, List.set_cons_succ])
  refine wpAnyH_take (i := 12) (oi := _) (v := ?_) rfl (by kernel_rfl) (by kernel_rfl) (by kernel_rfl) (fun _ _ _ h => h) (Or.inl ⟨by rfl, ?_⟩) (by assumption) ?_
  rotate_left
  · intro w hSw
    (try dsimp only at hSw)
    go_simp
    (try with_reducible rfl)
  (try simp only [Act.put, List.setIfInBounds_toArray, List.set_cons_zero, List.set_cons_succ])
  refine wpAnyH_ready (rs := [4]) (by kernel_rfl) (by simp) ?_
  refine AllReadyH.cons (o := _) rfl (fun K hK => ?_) AllReadyH.nil
  go_simp
  refine hK.out _ _ ?_ (fun hHeld2 => ?_)
  · (try dsimp only)
    first | exact ⟨c3, c4, c5, c6⟩ | exact four_below ‹_› ‹_› | exact four_allocd ‹_› _ | exact four_alloc ‹_› _ | exact four_set ‹_› (by omega) (by omega) _ _ | go_keep
  clear hK K
  (try simp only [Act.put, List.setIfInBounds_toArray, List.set_cons_zero, List.set_cons_succ])
  clear hHeld
  have hHeld := hHeld2
  clear hHeld2
  refine wpAnyH_ready (rs := [5]) (by kernel_rfl) (by simp) ?_
  refine AllReadyH.cons (o := _) rfl (fun K hK => ?_) AllReadyH.nil
  go_simp
  refine (concat_any _ a b na ca nb cb la lb _ (by exact (newd2 rfl).1) (by exact (newd2 rfl).2) (by exact J.out.srcA _) (by exact J.out.srcB _) hl).mono ?_; rintro e w3 ⟨v, rfl, hv, hb3⟩; obtain ⟨va, vn, vc, rfl⟩ := owns_slice hv; have FIN := hid (J.out.closeC hv hb3); have BW3 := up_below hb3; have J3 := hid (J.out.below BW3); clear hv hb3; obtain ⟨d1, d2, g1, g2, _, _, _, _⟩ := J3.out.cells
  go_wp2_with fail
  refine hK.out _ _ ?_ (fun hHeld2 => ?_)
  · (try dsimp only)
    first | exact ⟨c3, c4, c5, c6⟩ | exact four_below ‹_› ‹_› | exact four_allocd ‹_› _ | exact four_alloc ‹_› _ | exact four_set ‹_› (by omega) (by omega) _ _ | go_keep
  clear hK K
  (try simp only [Act.put, List.setIfInBounds_toArray, List.set_cons_zero, List.set_cons_succ])
  clear hHeld
  have hHeld := hHeld2
  clear hHeld2
  refine wpAnyH_take (i := 11) (oi := _) (v := ?_) rfl (by kernel_rfl) (by kernel_rfl) (by kernel_rfl) (fun _ _ _ h => h) (Or.inl ⟨by rfl, ?_⟩) (by assumption) ?_
  rotate_left
  · intro w hSw
    (try dsimp only at hSw)
    go_simp
    (try with_reducible rfl)
  (try simp only [Act.put, List.setIfInBounds_toArray, List.set_cons_zero, List.set_cons_succ])
  refine wpAnyH_take (i := 13) (oi := _) (v := ?_) rfl (by kernel_rfl) (by kernel_rfl) (by kernel_rfl) (fun _ _ _ h => h) (Or.inl ⟨by rfl, ?_⟩) (by assumption) ?_
  rotate_left
  · intro w hSw
    (try dsimp only at hSw)
    go_simp
    (try with_reducible rfl)
  (try simp only [Act.put, List.setIfInBounds_toArray, List.set_cons_zero, List.set_cons_succ])
  refine wpAnyH_take (i := 14) (oi := _) (v := undef) rfl (by kernel_rfl) (by kernel_rfl) (by kernel_rfl) (fun _ _ _ h => h) (Or.inr ⟨?_, rfl⟩) (by assumption) ?_
  · first | kernel_rfl | go_simp
  (try simp only [Act.put, List.setIfInBounds_toArray, List.set_cons_zero, List.set_cons_succ])
  refine wpAnyH_take (i := 15) (oi := _) (v := ?_) rfl (by kernel_rfl) (by kernel_rfl) (by kernel_rfl) (fun _ _ _ h => h) (Or.inl ⟨by rfl, ?_⟩) (by assumption) ?_
  rotate_left
  · intro w hSw
    (try dsimp only at hSw)
    go_simp
    (try with_reducible rfl)
  (try simp only [Act.put, List.setIfInBounds_toArray, List.set_cons_zero, List.set_cons_succ])
  refine wpAnyH_ready (rs := [16]) (by kernel_rfl) (by simp) ?_
  refine AllReadyH.cons (o := _) rfl (fun K hK => ?_) AllReadyH.nil
  go_simp
  refine hK.out _ _ ?_ (fun hHeld2 => ?_)
  · (try dsimp only)
    first | exact ⟨c3, c4, c5, c6⟩ | exact four_below ‹_› ‹_› | exact four_allocd ‹_› _ | exact four_alloc ‹_› _ | exact four_set ‹_› (by omega) (by omega) _ _ | go_keep
  clear hK K
  (try simp only [Act.put, List.setIfInBounds_toArray, List.set_cons_zero, List.set_cons_succ])
  clear hHeld
  have hHeld := hHeld2
  clear hHeld2
  refine wpAnyH_ready (rs := [17]) (by kernel_rfl) (by simp) ?_
  refine AllReadyH.cons (o := _) rfl (fun K hK => ?_) AllReadyH.nil
  go_simp
  refine hK.out _ _ ?_ (fun hHeld2 => ?_)
  · (try dsimp only)
    first | exact ⟨c3, c4, c5, c6⟩ | exact four_below ‹_› ‹_› | exact four_allocd ‹_› _ | exact four_alloc ‹_› _ | exact four_set ‹_› (by omega) (by omega) _ _ | go_keep
  clear hK K
  (try simp only [Act.put, List.setIfInBounds_toArray, List.set_cons_zero, List.set_cons_succ])
  clear hHeld
  have hHeld := hHeld2
  clear hHeld2
  refine wpAnyH_done (by kernel_rfl) ?_ _
  go_wp2_with fail
  have hws := wrap_small ((la.length : Int) + (lb.length : Int)) (by omega) (by omega)
  refine bodyPost_ret (v := .tuple #[.agg #[.slice va vn vc, .int .i64 (la ++ lb).length], .bool false]) (by simp [results, Try.results29, go_sem, d1, d2, hws]) rfl ?_
  exact ⟨_, _, _, rfl, FIN.out _ _⟩
end Go.Proofs.Qxb6613839a
