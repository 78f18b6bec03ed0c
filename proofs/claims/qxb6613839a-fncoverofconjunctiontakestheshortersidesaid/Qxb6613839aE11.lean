import Derived.Test.Qxb6613839aE8
namespace Go.Proofs.Qxb6613839a
open Go.RowKit
set_option linter.unusedVariables false
set_option linter.unusedSimpArgs false
attribute [local go_sem] hit65 hit56 hit60 hit69 hit68 hit4 hit9 miss65 miss56 miss85 miss60 miss88 miss68 look_nil meth65 meth68 meth69 meth60 meth56 eval65 eval56

set_option maxRecDepth 100000 in
set_option maxHeartbeats 1000000 in
theorem cov_not {A : TypeId} {va : Value} {h : Bool} {l : Tm} {ok : Bool} (ha : Cov A va (!h) l ok) : Cov 56 (.agg #[.iface A va]) h l ok := by
  intro w
  have Ha := hid (fun w => ha w)
  clear ha
  go_enter Try.func28, Try.ntmps28
  go_wp2_with fail
  refine (Ha.out _).mono ?_
  rintro e w1 ⟨a, n, c, rfl, hv, hb1⟩
  obtain ⟨e0, e1, f0, f1, fin⟩ := cov_close (w := w) hb1 (by (iterate 1 (refine hold_alloc ?_ _)); exact heap_alloc_new w _) (by repeat (first | exact Below.refl _ _ | refine Below.drew ?_ | refine Below.alloc ?_ (by simp <;> omega) _)) hv
  clear hb1 hv
  go_wp2_with fail
  refine bodyPost_ret (v := .tuple #[.agg #[.slice a n c, .int .i64 l.length], .bool ok]) (by simp [results, Try.results28, go_sem, e0, e1]) rfl ?_
  exact ⟨_, _, _, rfl, fin _ _⟩

/-- What coverJoined answers. -/
def JoinAt (w : World) (l : Tm) (ok : Bool) (e : Ending) (w' : World) : Prop := CovAt w l ok e w'

set_option maxRecDepth 100000 in
set_option maxHeartbeats 1000000 in
theorem cov_or_of {A B : TypeId} {va vb : Value} {h : Bool} {l : Tm} {ok : Bool} (hj : ∀ w, Calls Try.prog 29 #[.iface A va, .iface B vb, .bool h, .bool true, costV] w (CovAt w l ok)) : Cov 60 (.agg #[.iface A va, .iface B vb]) h l ok := by
  intro w
  have Ha := hid (fun w => hj w)
  clear hj
  go_enter Try.func28, Try.ntmps28
  go_wp2_with fail
  refine (Ha.out _).mono ?_
  rintro e w1 ⟨a, n, c, rfl, hv, hb1⟩
  obtain ⟨e0, e1, f0, f1, fin⟩ := cov_close (w := w) hb1 (by (iterate 1 (refine hold_alloc ?_ _)); exact heap_alloc_new w _) (by repeat (first | exact Below.refl _ _ | refine Below.drew ?_ | refine Below.alloc ?_ (by simp <;> omega) _)) hv
  clear hb1 hv
  go_wp2_with fail
  refine bodyPost_ret (v := .tuple #[.agg #[.slice a n c, .int .i64 l.length], .bool ok]) (by simp [results, Try.results28, go_sem, e0, e1]) rfl ?_
  exact ⟨_, _, _, rfl, fin _ _⟩

/-- What lies in memory behind the two covers of coverJoined. -/
structure Joined (w : World) (pa pb : Nat) (sa ia sb ib : Value) (la lb : Tm) (W : World) : Prop where
  res : W.heap[w.heap.size]? = some (.cells #[.slice none 0 0, .int .i64 0] 79 (0, 0))
  a : W.heap[pa]? = some (.cells #[sa, ia] 79 (0, 0))
  b : W.heap[pb]? = some (.cells #[sb, ib] 79 (0, 0))
  oa : W.ownsRow (w.heap.size + 1) 32 2 sa la.length (tcells la)
  ob : W.ownsRow (w.heap.size + 1) 32 2 sb lb.length (tcells lb)
  bel : Below w.heap.size w W
  ne : w.heap.size < pa ∧ pa < pb ∧ pb < W.heap.size

theorem joined_mk {w w1 w2 : World} {sa ia sb ib : Value} {la lb : Tm} (V1 : w1.ownsRow (w.alloc (.cells #[.slice none 0 0, .int .i64 0] 79)).heap.size 32 2 sa la.length (tcells la)) (B1 : Below (w.alloc (.cells #[.slice none 0 0, .int .i64 0] 79)).heap.size (w.alloc (.cells #[.slice none 0 0, .int .i64 0] 79)) w1)
    (V2 : w2.ownsRow (w1.alloc (.cells #[sa, ia] 79)).heap.size 32 2 sb lb.length (tcells lb)) (B2 : Below (w1.alloc (.cells #[sa, ia] 79)).heap.size (w1.alloc (.cells #[sa, ia] 79)) w2) :
    Joined w w1.heap.size w2.heap.size sa ia sb ib la lb (w2.alloc (.cells #[sb, ib] 79)) := by
  have z1 := B1.size
  have z2 := B2.size
  simp at z1 z2
  have h0 : w1.heap[w.heap.size]? = some (.cells #[.slice none 0 0, .int .i64 0] 79 (0, 0)) := (B1.block _ (by simp)).trans (heap_alloc_new w _)
  refine ⟨hold_alloc ((B2.block _ (by simp; omega)).trans (hold_alloc h0 _)) _, hold_alloc ((B2.block _ (by simp)).trans (heap_alloc_new w1 _)) _, heap_alloc_new w2 _, ?_, ?_, ?_, by omega, by omega, by simp⟩
  · exact (owns_below2 (owns_base2 V1 (by simp)) (Below.trans ((Below.refl _ _).alloc (Nat.le_refl _) _) (B2.mono (by simp)))).alloc _
  · exact (owns_base2 V2 (by simp; omega)).alloc _
  · exact ((below_next (below_next ((Below.refl _ _).alloc (Nat.le_refl _) _) B1) (Below.trans ((Below.refl _ _).alloc (Nat.le_refl _) _) (B2.mono (by simp)))).alloc (by omega) _)

theorem Joined.cells {w W : World} {pa pb : Nat} {sa ia sb ib : Value} {la lb : Tm} (h : Joined w pa pb sa ia sb ib la lb W) :
    W.cell? ⟨w.heap.size, 0, none⟩ = some (.slice none 0 0) ∧ W.cell? ⟨w.heap.size, 1, none⟩ = some (.int .i64 0) ∧ W.frozen? ⟨w.heap.size, 0, none⟩ = false ∧ W.frozen? ⟨w.heap.size, 1, none⟩ = false ∧
    W.cell? ⟨pa, 0, none⟩ = some sa ∧ W.cell? ⟨pa, 1, none⟩ = some ia ∧ W.cell? ⟨pb, 0, none⟩ = some sb ∧ W.cell? ⟨pb, 1, none⟩ = some ib := by
  refine ⟨?_, ?_, ?_, ?_, ?_, ?_, ?_, ?_⟩ <;> simp [World.cell?, World.frozen?, h.res, h.a, h.b]
theorem Joined.closeA {w W : World} {pa pb : Nat} {sa ia sb ib : Value} {la lb : Tm} (h : Joined w pa pb sa ia sb ib la lb W) (x y : Value) :
    ((W.setCell ⟨w.heap.size, 0, none⟩ x).setCell ⟨w.heap.size, 1, none⟩ y).ownsRow w.heap.size 32 2 sa la.length (tcells la) ∧ Below w.heap.size w ((W.setCell ⟨w.heap.size, 0, none⟩ x).setCell ⟨w.heap.size, 1, none⟩ y) :=
  ⟨owns_base2 (ownsRow_setCell_below (ownsRow_setCell_below h.oa (by simp) _) (by simp) _) (by omega), (h.bel.setCell (Nat.le_refl _) _).setCell (Nat.le_refl _) _⟩
theorem Joined.closeB {w W : World} {pa pb : Nat} {sa ia sb ib : Value} {la lb : Tm} (h : Joined w pa pb sa ia sb ib la lb W) (x y : Value) :
    ((W.setCell ⟨w.heap.size, 0, none⟩ x).setCell ⟨w.heap.size, 1, none⟩ y).ownsRow w.heap.size 32 2 sb lb.length (tcells lb) ∧ Below w.heap.size w ((W.setCell ⟨w.heap.size, 0, none⟩ x).setCell ⟨w.heap.size, 1, none⟩ y) :=
  ⟨owns_base2 (ownsRow_setCell_below (ownsRow_setCell_below h.ob (by simp) _) (by simp) _) (by omega), (h.bel.setCell (Nat.le_refl _) _).setCell (Nat.le_refl _) _⟩

set_option maxRecDepth 100000 in
set_option maxHeartbeats 1000000 in
theorem join_f_le {A B : TypeId} {va vb : Value} {la lb : Tm} (ha : Cov A va false la true) (hb : Cov B vb false lb true) (hle : la.length ≤ lb.length) (w : World) :
    Calls Try.prog 29 #[.iface A va, .iface B vb, .bool false, .bool true, costV] w (CovAt w la true) := by
  have Ha := hid (fun w => ha w)
  have Hb := hid (fun w => hb w)
  clear ha hb
  go_enter Try.func29, Try.ntmps29
  go_wp2_with fail
  refine (Ha.out _).mono ?_
  rintro e w1 ⟨a, na, ca, rfl, hva, hb1⟩
  have VA := hid hva
  have B1 := hid hb1
  clear hva hb1 Ha
  go_wp2_with fail
  refine (Hb.out _).mono ?_
  rintro e w2 ⟨b, nb, cb, rfl, hvb, hb2⟩
  have J := hid (joined_mk (ib := .int .i64 lb.length) VA.out B1.out hvb hb2)
  clear hvb hb2 Hb VA B1
  obtain ⟨c1, c2, f1, f2, c3, c4, c5, c6⟩ := J.out.cells
  go_wp2_with fail
  refine bodyPost_ret (v := .tuple #[.agg #[.slice a na ca, .int .i64 la.length], .bool true]) (by simp [results, Try.results29, go_sem, c1, c2]) rfl ?_
  exact ⟨_, _, _, rfl, J.out.closeA _ _⟩

set_option maxRecDepth 100000 in
set_option maxHeartbeats 1000000 in
theorem join_f_gt {A B : TypeId} {va vb : Value} {la lb : Tm} (ha : Cov A va false la true) (hb : Cov B vb false lb true) (hle : lb.length < la.length) (w : World) :
    Calls Try.prog 29 #[.iface A va, .iface B vb, .bool false, .bool true, costV] w (CovAt w lb true) := by
  have Ha := hid (fun w => ha w)
  have Hb := hid (fun w => hb w)
  clear ha hb
  go_enter Try.func29, Try.ntmps29
  go_wp2_with fail
  refine (Ha.out _).mono ?_
  rintro e w1 ⟨a, na, ca, rfl, hva, hb1⟩
  have VA := hid hva
  have B1 := hid hb1
  clear hva hb1 Ha
  go_wp2_with fail
  refine (Hb.out _).mono ?_
  rintro e w2 ⟨b, nb, cb, rfl, hvb, hb2⟩
  have J := hid (joined_mk (ib := .int .i64 lb.length) VA.out B1.out hvb hb2)
  clear hvb hb2 Hb VA B1
  obtain ⟨c1, c2, f1, f2, c3, c4, c5, c6⟩ := J.out.cells
  go_wp2_with fail
  refine bodyPost_ret (v := .tuple #[.agg #[.slice b nb cb, .int .i64 lb.length], .bool true]) (by simp [results, Try.results29, go_sem, c1, c2]) rfl ?_
  exact ⟨_, _, _, rfl, J.out.closeB _ _⟩

set_option maxRecDepth 100000 in
set_option maxHeartbeats 1000000 in
theorem join_f_no {A B : TypeId} {va vb : Value} {la lb : Tm} (okB : Bool) (ha : Cov A va false la false) (hb : Cov B vb false lb okB) (w : World) :
    Calls Try.prog 29 #[.iface A va, .iface B vb, .bool false, .bool true, costV] w (CovAt w lb okB) := by
  have Ha := hid (fun w => ha w)
  have Hb := hid (fun w => hb w)
  clear ha hb
  go_enter Try.func29, Try.ntmps29
  go_wp2_with fail
  refine (Ha.out _).mono ?_
  rintro e w1 ⟨a, na, ca, rfl, hva, hb1⟩
  have VA := hid hva
  have B1 := hid hb1
  clear hva hb1 Ha
  go_wp2_with fail
  refine (Hb.out _).mono ?_
  rintro e w2 ⟨b, nb, cb, rfl, hvb, hb2⟩
  have J := hid (joined_mk (ib := .int .i64 lb.length) VA.out B1.out hvb hb2)
  clear hvb hb2 Hb VA B1
  obtain ⟨c1, c2, f1, f2, c3, c4, c5, c6⟩ := J.out.cells
  go_wp2_with fail
  refine bodyPost_ret (v := .tuple #[.agg #[.slice b nb cb, .int .i64 lb.length], .bool okB]) (by simp [results, Try.results29, go_sem, c1, c2]) rfl ?_
  exact ⟨_, _, _, rfl, J.out.closeB _ _⟩
end Go.Proofs.Qxb6613839a
