import Derived.Test.Qxb6613839aE0
namespace Go.Proofs.Qxb6613839a
open Go.RowKit
set_option linter.unusedVariables false
attribute [local go_sem] hit65 hit56 hit60 hit69 hit68 hit4 hit9 miss65 miss56 miss85 miss60 miss88 miss68 look_nil meth65 meth68 meth69 meth60 meth56 eval65 eval56

theorem hid {p : Prop} (h : p) : Hid p := h

abbrev litB (b : Bool) : Value := .iface 65 (.agg #[.iface 4 (.bool b)])
abbrev litS (s : ByteArray) : Value := .iface 65 (.agg #[.iface 9 (.string s)])
abbrev nameV (p : ByteArray) : Value := .iface 68 (.agg #[.string p, .int .i64 2])
abbrev eqV (a b : Value) : Value := .iface 69 (.agg #[a, b])
abbrev orV (a b : Value) : Value := .iface 60 (.agg #[a, b])
abbrev notV (x : Value) : Value := .iface 56 (.agg #[x])

abbrev bindN : String := "example.com/custodian/custodian/pkg/expr.bind"

theorem below_next {W w w' : World} (h : Below W.heap.size W w) (hb : Below w.heap.size w w') : Below W.heap.size W w' := h.trans (hb.mono h.size)

theorem litbind_any (v : Value) (w : World) :
    Calls Try.prog 55 #[.agg #[v], .map none] w fun e w' => e = .returned (.iface 65 (.agg #[v])) ∧ Below w.heap.size w w' := by
  go_enter Try.func55, Try.ntmps55
  go_wp2
  go_ret
  exact ⟨rfl, (Below.refl _ _).alloc (Nat.le_refl _) _⟩

theorem namebind_any (p : ByteArray) (n : Int) (w : World) :
    Calls Try.prog 58 #[.agg #[.string p, .int .i64 n], .map none] w fun e w' => e = .returned (.iface 68 (.agg #[.string p, .int .i64 n])) ∧ Below w.heap.size w w' := by
  go_enter Try.func58, Try.ntmps58
  go_wp2
  go_ret
  exact ⟨rfl, (Below.refl _ _).alloc (Nat.le_refl _) _⟩

set_option maxRecDepth 100000 in
set_option maxHeartbeats 400000 in
theorem fold_non (n : Value) (g l c : Nat) (T : TypeId) (v : Value) (w : World) (hT : ¬ T = 65) (h : w.cell? ⟨g, 0, none⟩ = some (.iface T v)) :
    Calls Try.prog 27 #[n, .slice (some ⟨g, 0, none⟩) (l + 1) c] w fun e w' => e = .returned n ∧ Below w.heap.size w w' := by
  go_enter Try.func27, Try.ntmps27
  go_wp2_with fail
  refine wp_loop_rounds 1 ?_
  rw [rounds_succ]
  go_wp2
  go_ret
  exact ⟨rfl, (Below.refl _ _).alloc (Nat.le_refl _) _⟩

set_option maxRecDepth 100000 in
set_option maxHeartbeats 400000 in
theorem fold_lit_non (n : Value) (g c : Nat) (T U : TypeId) (u v : Value) (w : World) (hT : ¬ T = 65) (h0 : w.cell? ⟨g, 0, none⟩ = some (.iface 65 (.agg #[.iface U u]))) (h1 : w.cell? ⟨g, 1, none⟩ = some (.iface T v)) :
    Calls Try.prog 27 #[n, .slice (some ⟨g, 0, none⟩) 2 c] w fun e w' => e = .returned n ∧ Below w.heap.size w w' := by
  have hb := World.block_lt_of_cell? w _ h1
  simp only at hb
  go_enter Try.func27, Try.ntmps27
  go_wp2_with fail
  refine wp_loop_rounds 2 ?_
  rw [rounds_succ]
  go_wp2_with fail
  rw [rounds_succ]
  go_wp2
  go_ret
  exact ⟨rfl, ((Below.refl _ _).alloc (Nat.le_refl _) _).alloc (by simp) _⟩

set_option maxRecDepth 100000 in
set_option maxHeartbeats 400000 in
theorem noteval_any (b : Bool) (w : World) :
    Calls Try.prog 51 #[.agg #[litB b], .map none] w fun e w' => e = .returned (.iface 4 (.bool !b)) ∧ Below w.heap.size w w' := by
  go_enter Try.func51, Try.ntmps51
  go_wp2
  go_ret
  exact ⟨rfl, ((Below.refl _ _).alloc (Nat.le_refl _) _).alloc (by simp) _⟩

set_option maxRecDepth 100000 in
set_option maxHeartbeats 400000 in
theorem fold_not_lit (b : Bool) (g c : Nat) (w : World) (h0 : w.cell? ⟨g, 0, none⟩ = some (litB b)) :
    Calls Try.prog 27 #[notV (litB b), .slice (some ⟨g, 0, none⟩) 1 c] w fun e w' => e = .returned (litB !b) ∧ Below w.heap.size w w' := by
  go_enter Try.func27, Try.ntmps27
  go_wp2_with fail
  refine wp_loop_rounds 2 ?_
  rw [rounds_succ]
  go_wp2_with fail
  rw [rounds_succ]
  go_wp2_with fail
  refine (noteval_any b _).mono ?_
  rintro e w1 ⟨rfl, hb1⟩
  go_wp2_with fail
  go_ret
  exact ⟨rfl, below_next ((Below.refl _ _).alloc (Nat.le_refl _) _) hb1⟩

/-- The node of type T that holds v, bound to no variables, is r: the method's number and its contract. -/
def Binds (T : TypeId) (v r : Value) : Prop :=
  ∃ f, (∀ w, (method 224 T v bindN).run Try.prog w = .ok (f, v) w) ∧ (∀ args w, (callFunc f args).run Try.prog w = .ok (.enter f args) w) ∧ ∀ w, Calls Try.prog f #[v, .map none] w fun e w' => e = .returned r ∧ Below w.heap.size w w'

theorem binds_lit (b : Bool) : Binds 65 (.agg #[.iface 4 (.bool b)]) (litB b) :=
  ⟨55, meth65 _, call55, fun w => litbind_any _ w⟩

theorem keep2 {w W W' : World} {B : Nat} {u v : Value} (h : W.cell? ⟨B, 0, none⟩ = some u ∧ W.cell? ⟨B, 1, none⟩ = some v ∧ Below w.heap.size w W) (hb : Below W.heap.size W W') :
    W'.cell? ⟨B, 0, none⟩ = some u ∧ W'.cell? ⟨B, 1, none⟩ = some v ∧ Below w.heap.size w W' := by
  obtain ⟨h1, h2, h3⟩ := h
  exact ⟨(hb.cell (World.block_lt_of_cell? W _ h1)).trans h1, (hb.cell (World.block_lt_of_cell? W _ h2)).trans h2, below_next h3 hb⟩
theorem keep2_alloc {w W : World} {B : Nat} {u v : Value} (h : W.cell? ⟨B, 0, none⟩ = some u ∧ W.cell? ⟨B, 1, none⟩ = some v ∧ Below w.heap.size w W) (o : Obj) :
    (W.alloc o).cell? ⟨B, 0, none⟩ = some u ∧ (W.alloc o).cell? ⟨B, 1, none⟩ = some v ∧ Below w.heap.size w (W.alloc o) :=
  keep2 h ((Below.refl _ _).alloc (Nat.le_refl _) _)
theorem keep2_start {w : World} {u v : Value} {t : TypeId} :
    (w.alloc (.cells #[u, v] t)).drew.cell? ⟨w.heap.size, 0, none⟩ = some u ∧ (w.alloc (.cells #[u, v] t)).drew.cell? ⟨w.heap.size, 1, none⟩ = some v ∧ Below w.heap.size w (w.alloc (.cells #[u, v] t)).drew :=
  ⟨by simp, by simp, ((Below.refl _ _).alloc (Nat.le_refl _) _).drew⟩

theorem keep2_swap {w W : World} {B : Nat} {u v : Value} {o : Obj} (h : (W.alloc o).cell? ⟨B, 0, none⟩ = some u ∧ (W.alloc o).cell? ⟨B, 1, none⟩ = some v ∧ Below w.heap.size w (W.alloc o)) (hB : B < W.heap.size) (hw : w.heap.size ≤ W.heap.size) (o' : Obj) :
    (W.alloc o').cell? ⟨B, 0, none⟩ = some u ∧ (W.alloc o').cell? ⟨B, 1, none⟩ = some v ∧ Below w.heap.size w (W.alloc o') := by
  obtain ⟨h1, h2, h3⟩ := h
  rw [World.cell?_alloc_past _ _ _ hB] at h1 h2
  have hbW : Below w.heap.size w W := ⟨h3.os, h3.tape, h3.output, hw, fun k hk => (Below.heap_alloc _ _ _ (by omega)).symm.trans (h3.block k hk)⟩
  exact ⟨by rw [World.cell?_alloc_past _ _ _ hB]; exact h1, by rw [World.cell?_alloc_past _ _ _ hB]; exact h2, hbW.alloc hw _⟩
theorem keep2_set {w W : World} {B : Nat} {u v : Value} (h : W.cell? ⟨B, 0, none⟩ = some u ∧ W.cell? ⟨B, 1, none⟩ = some v ∧ Below w.heap.size w W) (a b : Addr) (x y : Value) (ha : ¬ a.block = B) (hb : ¬ b.block = B) (hwa : w.heap.size ≤ a.block) (hwb : w.heap.size ≤ b.block) :
    ((W.setCell a x).setCell b y).cell? ⟨B, 0, none⟩ = some u ∧ ((W.setCell a x).setCell b y).cell? ⟨B, 1, none⟩ = some v ∧ Below w.heap.size w ((W.setCell a x).setCell b y) := by
  obtain ⟨h1, h2, h3⟩ := h
  have e : ∀ o, ((W.setCell a x).setCell b y).cell? ⟨B, o, none⟩ = W.cell? ⟨B, o, none⟩ := fun o =>
    World.cell?_of_block ((Below.heap_setCell _ _ _ _ (fun e => hb e.symm)).trans (Below.heap_setCell _ _ _ _ (fun e => ha e.symm)))
  exact ⟨(e 0).trans h1, (e 1).trans h2, (h3.setCell hwa _).setCell hwb _⟩
theorem bcell {W w1 : World} (hb : Below W.heap.size W w1) : (∀ b o, b < W.heap.size → w1.cell? ⟨b, o, none⟩ = W.cell? ⟨b, o, none⟩) ∧ (∀ b o, b < W.heap.size → w1.frozen? ⟨b, o, none⟩ = W.frozen? ⟨b, o, none⟩) :=
  ⟨fun b o h => hb.cell (p := ⟨b, o, none⟩) h, fun b o h => hb.frozen (p := ⟨b, o, none⟩) h⟩

theorem new0 {W : World} {n : Nat} {t : TypeId} {a b : Value} (h : W.heap.size = n) : (W.alloc (.cells #[a, b] t)).cell? ⟨n, 0, none⟩ = some a := by subst h; simp
theorem new1 {W : World} {n : Nat} {t : TypeId} {a b : Value} (h : W.heap.size = n) : (W.alloc (.cells #[a, b] t)).cell? ⟨n, 1, none⟩ = some b := by subst h; simp
theorem keepB {w W : World} {B : Nat} {u v : Value} (h : W.cell? ⟨B, 0, none⟩ = some u ∧ W.cell? ⟨B, 1, none⟩ = some v ∧ Below w.heap.size w W) : Below w.heap.size w W := h.2.2
theorem fold_end {w X w3 : World} {o : Obj} (h : Below w.heap.size w X) (h3 : Below (X.alloc o).heap.size (X.alloc o) w3) : Below w.heap.size w w3 := below_next (h.alloc h.size _) h3
end Go.Proofs.Qxb6613839a
