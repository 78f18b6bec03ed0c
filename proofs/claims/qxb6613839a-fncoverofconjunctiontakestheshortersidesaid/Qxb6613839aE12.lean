import Derived.Test.Qxb6613839aE11
namespace Go.Proofs.Qxb6613839a
open Go.RowKit
set_option linter.unusedVariables false
set_option linter.unusedSimpArgs false

theorem Joined.below {w W W' : World} {pa pb : Nat} {sa ia sb ib : Value} {la lb : Tm} (h : Joined w pa pb sa ia sb ib la lb W) (hb : Below W.heap.size W W') : Joined w pa pb sa ia sb ib la lb W' := by
  obtain ⟨h1, h2, h3, h4, h5, h6, h7⟩ := h
  exact ⟨(hb.block _ (lt_of_block h1)).trans h1, (hb.block _ (lt_of_block h2)).trans h2, (hb.block _ (lt_of_block h3)).trans h3, owns_below2 h4 hb, owns_below2 h5 hb, below_next h6 hb, h7.1, h7.2.1, Nat.lt_of_lt_of_le h7.2.2 hb.size⟩

/-- The four cells that the statement reads. -/
def Four (W : World) (pa pb : Nat) (sa ia sb ib : Value) : Prop := W.cell? ⟨pa, 0, none⟩ = some sa ∧ W.cell? ⟨pa, 1, none⟩ = some ia ∧ W.cell? ⟨pb, 0, none⟩ = some sb ∧ W.cell? ⟨pb, 1, none⟩ = some ib

theorem four_below {W W' : World} {pa pb : Nat} {sa ia sb ib : Value} (h : W.cell? ⟨pa, 0, none⟩ = some sa ∧ W.cell? ⟨pa, 1, none⟩ = some ia ∧ W.cell? ⟨pb, 0, none⟩ = some sb ∧ W.cell? ⟨pb, 1, none⟩ = some ib) (hb : Below W.heap.size W W') :
    W'.cell? ⟨pa, 0, none⟩ = some sa ∧ W'.cell? ⟨pa, 1, none⟩ = some ia ∧ W'.cell? ⟨pb, 0, none⟩ = some sb ∧ W'.cell? ⟨pb, 1, none⟩ = some ib :=
  ⟨cell_keep h.1 hb, cell_keep h.2.1 hb, cell_keep h.2.2.1 hb, cell_keep h.2.2.2 hb⟩
theorem four_alloc {W : World} {pa pb : Nat} {sa ia sb ib : Value} (h : W.cell? ⟨pa, 0, none⟩ = some sa ∧ W.cell? ⟨pa, 1, none⟩ = some ia ∧ W.cell? ⟨pb, 0, none⟩ = some sb ∧ W.cell? ⟨pb, 1, none⟩ = some ib) (o : Obj) :
    (W.alloc o).cell? ⟨pa, 0, none⟩ = some sa ∧ (W.alloc o).cell? ⟨pa, 1, none⟩ = some ia ∧ (W.alloc o).cell? ⟨pb, 0, none⟩ = some sb ∧ (W.alloc o).cell? ⟨pb, 1, none⟩ = some ib :=
  four_below h ((Below.refl _ _).alloc (Nat.le_refl _) _)
theorem four_allocd {W : World} {pa pb : Nat} {sa ia sb ib : Value} (h : W.drew.cell? ⟨pa, 0, none⟩ = some sa ∧ W.drew.cell? ⟨pa, 1, none⟩ = some ia ∧ W.drew.cell? ⟨pb, 0, none⟩ = some sb ∧ W.drew.cell? ⟨pb, 1, none⟩ = some ib) (o : Obj) :
    (W.alloc o).drew.cell? ⟨pa, 0, none⟩ = some sa ∧ (W.alloc o).drew.cell? ⟨pa, 1, none⟩ = some ia ∧ (W.alloc o).drew.cell? ⟨pb, 0, none⟩ = some sb ∧ (W.alloc o).drew.cell? ⟨pb, 1, none⟩ = some ib :=
  four_alloc (W := W) h o
theorem four_set {W : World} {pa pb A : Nat} {sa ia sb ib : Value} (h : W.cell? ⟨pa, 0, none⟩ = some sa ∧ W.cell? ⟨pa, 1, none⟩ = some ia ∧ W.cell? ⟨pb, 0, none⟩ = some sb ∧ W.cell? ⟨pb, 1, none⟩ = some ib) (ha : pa ≠ A) (hb : pb ≠ A) (x y : Value) :
    ((W.setCell ⟨A, 0, none⟩ x).setCell ⟨A, 1, none⟩ y).cell? ⟨pa, 0, none⟩ = some sa ∧ ((W.setCell ⟨A, 0, none⟩ x).setCell ⟨A, 1, none⟩ y).cell? ⟨pa, 1, none⟩ = some ia ∧ ((W.setCell ⟨A, 0, none⟩ x).setCell ⟨A, 1, none⟩ y).cell? ⟨pb, 0, none⟩ = some sb ∧ ((W.setCell ⟨A, 0, none⟩ x).setCell ⟨A, 1, none⟩ y).cell? ⟨pb, 1, none⟩ = some ib := by
  have e : ∀ p o, p ≠ A → ((W.setCell ⟨A, 0, none⟩ x).setCell ⟨A, 1, none⟩ y).cell? ⟨p, o, none⟩ = W.cell? ⟨p, o, none⟩ := fun p o hp =>
    World.cell?_of_block ((Below.heap_setCell _ _ _ _ hp).trans (Below.heap_setCell _ _ _ _ hp))
  exact ⟨(e _ _ ha).trans h.1, (e _ _ ha).trans h.2.1, (e _ _ hb).trans h.2.2.1, (e _ _ hb).trans h.2.2.2⟩

theorem newd2 {W : World} {n : Nat} {t : TypeId} {a b : Value} (h : W.heap.size = n) : (W.alloc (.cells #[a, b] t)).drew.cell? ⟨n, 0, none⟩ = some a ∧ (W.alloc (.cells #[a, b] t)).drew.cell? ⟨n, 1, none⟩ = some b := by
  subst h
  exact ⟨new0 rfl, new1 rfl⟩

theorem wrap_small (z : Int) (h0 : 0 ≤ z) (h1 : z ≤ 1000000) : IntKind.i64.wrap z = z := by
  simp [IntKind.wrap, IntKind.signed, IntKind.bits]
  omega
theorem Joined.srcA {w W : World} {pa pb : Nat} {a : Option Addr} {na ca : Nat} {ia sb ib : Value} {la lb : Tm} (h : Joined w pa pb (.slice a na ca) ia sb ib la lb W) (o : Obj) : Src (W.alloc o).drew a na ca la := owns_base2 (h.oa.alloc o).drew (Nat.zero_le _)
theorem Joined.srcB {w W : World} {pa pb : Nat} {b : Option Addr} {nb cb : Nat} {sa ia ib : Value} {la lb : Tm} (h : Joined w pa pb sa ia (.slice b nb cb) ib la lb W) (o : Obj) : Src (W.alloc o).drew b nb cb lb := owns_base2 (h.ob.alloc o).drew (Nat.zero_le _)
theorem owns_slice {w : World} {base : Nat} {e : TypeId} {v : Value} {n : Nat} {xs : List Value} (h : w.ownsRow base e 2 v n xs) : ∃ a k c, v = .slice a k c := by
  rcases h.2 with ⟨rfl, _⟩ | ⟨g, cap, cur, rfl, _⟩
  · exact ⟨_, _, _, rfl⟩
  · exact ⟨_, _, _, rfl⟩
theorem up_below {W w3 : World} {o : Obj} (h : Below (W.alloc o).drew.heap.size (W.alloc o).drew w3) : Below W.heap.size W w3 := ((Below.refl _ _).alloc (Nat.le_refl _) _).drew.trans (h.mono (by simp))
theorem Joined.closeC {w W w3 : World} {pa pb : Nat} {sa ia sb ib v : Value} {la lb : Tm} {n : Nat} {xs : List Value} {o : Obj} (h : Joined w pa pb sa ia sb ib la lb W) (hv : w3.ownsRow (W.alloc o).drew.heap.size 32 2 v n xs) (hb : Below (W.alloc o).drew.heap.size (W.alloc o).drew w3) (x y : Value) :
    ((w3.setCell ⟨w.heap.size, 0, none⟩ x).setCell ⟨w.heap.size, 1, none⟩ y).ownsRow w.heap.size 32 2 v n xs ∧ Below w.heap.size w ((w3.setCell ⟨w.heap.size, 0, none⟩ x).setCell ⟨w.heap.size, 1, none⟩ y) := by
  have hz := h.ne
  exact ⟨owns_base2 (ownsRow_setCell_below (ownsRow_setCell_below hv (by simp; omega) _) (by simp; omega) _) (by simp; omega), ((below_next h.bel (up_below hb)).setCell (Nat.le_refl _) _).setCell (Nat.le_refl _) _⟩

set_option maxRecDepth 100000 in
set_option maxHeartbeats 2000000 in
theorem join_t {A B : TypeId} {va vb : Value} {la lb : Tm} {ok : Bool} (ha : Cov A va true la true) (hb : Cov B vb true lb ok) (hl : la.length + lb.length ≤ 100000) (w : World) :
    Calls Try.prog 29 #[.iface A va, .iface B vb, .bool true, .bool true, costV] w (CovAt w (la ++ lb) ok) := by
  have Ha := hid (fun w => ha w)
  have Hb := hid (fun w => hb w)
  clear ha hb
  go_enter Try.func29, Try.ntmps29
  go_wp2_with fail
  refine (Ha.out _).mono ?_
  rintro e w1 ⟨a, na, ca, rfl, hva, hb1⟩
  have VA := hid hva
  have B1 := hid hb1
  clear hva hb1 Ha
  go_wp2_with fail
  refine (Hb.out _).mono ?_
  rintro e w2 ⟨b, nb, cb, rfl, hvb, hb2⟩
  have J := hid (joined_mk (ib := .int .i64 lb.length) VA.out B1.out hvb hb2)
  clear hvb hb2 Hb VA B1
  go_wp2_with fail
  obtain ⟨W, hW⟩ : ∃ W, w2.alloc (.cells #[.slice b nb cb, .int .i64 lb.length] 79) = W := ⟨_, rfl⟩
  rw [hW] at J
  rw [hW]
  clear hW
  generalize w1.heap.size = pa at *
  generalize w2.heap.size = pb at *
  obtain ⟨c1, c2, f1, f2, c3, c4, c5, c6⟩ := J.out.cells
  have hne := J.out.ne
  have JD := hid (J.out.below (W' := W.drew) ⟨rfl, rfl, rfl, Nat.le_refl _, fun _ _ => rfl⟩)
  go_region_held3 (fun X => X.cell? ⟨pa, 0, none⟩ = some (.slice a na ca) ∧ X.cell? ⟨pa, 1, none⟩ = some (.int .i64 la.length) ∧ X.cell? ⟨pb, 0, none⟩ = some (.slice b nb cb) ∧ X.cell? ⟨pb, 1, none⟩ = some (.int .i64 lb.length))
    (first | exact ⟨c3, c4, c5, c6⟩ | exact four_below ‹_› ‹_› | exact four_allocd ‹_› _ | exact four_alloc ‹_› _ | exact four_set ‹_› (by omega) (by omega) _ _ | go_keep)
    (first | (go_at_call 31; refine (concat_any _ a b na ca nb cb la lb _ (by exact (newd2 rfl).1) (by exact (newd2 rfl).2) (by exact J.out.srcA _) (by exact J.out.srcB _) hl).mono ?_; rintro e w3 ⟨v, rfl, hv, hb3⟩; obtain ⟨va, vn, vc, rfl⟩ := owns_slice hv; have FIN := hid (J.out.closeC hv hb3); have BW3 := up_below hb3; have J3 := hid (J.out.below BW3); clear hv hb3; obtain ⟨d1, d2, g1, g2, _, _, _, _⟩ := J3.out.cells))
  all_goals go_wp2_with fail
  all_goals have hws := wrap_small ((la.length : Int) + (lb.length : Int)) (by omega) (by omega)
  all_goals refine bodyPost_ret (v := .tuple #[.agg #[.slice va vn vc, .int .i64 (la ++ lb).length], .bool ok]) (by simp [results, Try.results29, go_sem, d1, d2, hws]) rfl ?_
  all_goals exact ⟨_, _, _, rfl, FIN.out _ _⟩
end Go.Proofs.Qxb6613839a
