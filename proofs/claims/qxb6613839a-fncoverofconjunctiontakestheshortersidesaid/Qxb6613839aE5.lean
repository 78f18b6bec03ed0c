import Derived.Test.Qxb6613839aE4
namespace Go.Proofs.Qxb6613839a
open Go.RowKit
set_option linter.unusedVariables false
attribute [local go_sem] hit65 hit56 hit60 hit69 hit68 hit4 hit9 miss65 miss56 miss85 miss60 miss88 miss68 look_nil meth65 meth68 meth69 meth60 meth56 eval65 eval56

/-- A node that bind gives: a bool value, or something else of type T. -/
abbrev Nd := Bool ⊕ (TypeId × Value)
def toV : Nd → Value
  | .inl b => litB b
  | .inr (T, v) => .iface T v
def NonLit : Nd → Prop
  | .inl _ => True
  | .inr (T, _) => ¬ T = 65
/-- 'decide' and what or.bind makes of it. -/
def dec : Nd → Nd → Nd
  | .inl true, _ => .inl true
  | .inl false, y => y
  | .inr x, .inl b => if b then .inl true else .inr x
  | .inr x, .inr y => .inr (60, .agg #[.iface x.1 x.2, .iface y.1 y.2])

/-- What decide answers. -/
def decAns : Nd → Nd → Value
  | .inr _, .inr _ => .tuple #[.nilIface, .bool false]
  | x, y => .tuple #[toV (dec x y), .bool true]

theorem decide_any (x y : Nd) (hx : NonLit x) (hy : NonLit y) (w : World) :
    Calls Try.prog 54 #[toV x, toV y, .bool true] w fun e w' => e = .returned (decAns x y) ∧ Below w.heap.size w w' := by
  match x, y, hx, hy with
  | .inl true, .inl b, _, _ => exact decide_true _ _ w
  | .inl true, .inr (U, u), _, _ => exact decide_true _ _ w
  | .inl false, .inl b, _, _ => exact decide_false _ _ w
  | .inl false, .inr (U, u), _, _ => exact decide_false _ _ w
  | .inr (T, v), .inl b, hx, _ =>
    have := decide_lit T v b w hx
    cases b <;> exact this
  | .inr (T, v), .inr (U, u), hx, hy => exact decide_non T U v u w hx hy

theorem decAns_form (x y : Nd) {XT YT : TypeId} {XV YV : Value} (hX : toV x = .iface XT XV) (hY : toV y = .iface YT YV) :
    (∃ T v, toV (dec x y) = .iface T v ∧ decAns x y = .tuple #[.iface T v, .bool true]) ∨ (decAns x y = .tuple #[.nilIface, .bool false] ∧ toV (dec x y) = orV (.iface XT XV) (.iface YT YV)) := by
  match x, y, hX, hY with
  | .inl true, .inl b, _, _ => exact .inl ⟨_, _, rfl, rfl⟩
  | .inl true, .inr (U, u), _, _ => exact .inl ⟨_, _, rfl, rfl⟩
  | .inl false, .inl b, _, _ => exact .inl ⟨_, _, rfl, rfl⟩
  | .inl false, .inr (U, u), _, _ => exact .inl ⟨_, _, rfl, rfl⟩
  | .inr (T, v), .inl true, _, _ => exact .inl ⟨_, _, rfl, rfl⟩
  | .inr (T, v), .inl false, _, _ => exact .inl ⟨_, _, rfl, rfl⟩
  | .inr (T, v), .inr (U, u), hX, hY =>
    refine .inr ⟨rfl, ?_⟩
    rw [← hX, ← hY]
    rfl

set_option maxRecDepth 100000 in
set_option maxHeartbeats 1000000 in
theorem orbind_any (A B : TypeId) (va vb : Value) (x y : Nd) (ha : Binds A va (toV x)) (hb : Binds B vb (toV y)) (hx : NonLit x) (hy : NonLit y) (w : World) :
    Calls Try.prog 52 #[.agg #[.iface A va, .iface B vb], .map none] w fun e w' => e = .returned (toV (dec x y)) ∧ Below w.heap.size w w' := by
  obtain ⟨fa, ma, ca, Ha0⟩ := ha
  obtain ⟨fb, mb, cb, Hb0⟩ := hb
  have Ha := hid Ha0
  have Hb := hid Hb0
  clear Ha0 Hb0
  obtain ⟨XT, XV, hX⟩ : ∃ T v, toV x = .iface T v := by
    match x with
    | .inl b => exact ⟨_, _, rfl⟩
    | .inr (T, v) => exact ⟨_, _, rfl⟩
  obtain ⟨YT, YV, hY⟩ : ∃ T v, toV y = .iface T v := by
    match y with
    | .inl b => exact ⟨_, _, rfl⟩
    | .inr (T, v) => exact ⟨_, _, rfl⟩
  have HD := hid (fun w => decide_any x y hx hy w)
  rw [hX] at Ha HD
  rw [hY] at Hb HD
  go_enter Try.func52, Try.ntmps52
  go_wp2_with fail
  go_region_held3 (fun w' => w'.cell? ⟨w.heap.size, 0, none⟩ = some (.iface A va) ∧ w'.cell? ⟨w.heap.size, 1, none⟩ = some (.iface B vb) ∧ Below w.heap.size w w')
    (first | exact keep2 ‹_› ‹_› | exact keep2_start | exact keep2_alloc ‹_› _ | go_keep)
    (first
      | (refine (Ha.out _).mono ?_; rintro e w1 ⟨rfl, hb1⟩; clear Ha)
      | (refine (Hb.out _).mono ?_; rintro e w2 ⟨rfl, hb2⟩; clear Hb))
  have BB := hid (keepB (w := w) (by assumption))
  have HA := hid (decAns_form x y hX hY)
  clear hX hY
  rcases HA.out with ⟨RT, RV, h1, h2⟩ | ⟨h1, h2⟩
  · have H1 := hid h1
    rw [h2] at HD
    clear h1 h2 HA
    go_wp2_with fail
    refine (HD.out _).mono ?_
    rintro e w3 ⟨rfl, hb3⟩
    go_wp2_with fail
    go_ret
    exact ⟨by rw [H1.out]; rfl, below_next BB.out hb3⟩
  · have H2 := hid h2
    rw [h1] at HD
    clear h1 h2 HA
    go_wp2_with fail
    refine (HD.out _).mono ?_
    rintro e w3 ⟨rfl, hb3⟩
    go_wp2_with fail
    go_ret
    exact ⟨by rw [H2.out]; rfl, below_next BB.out hb3⟩

theorem binds_or {A B : TypeId} {va vb : Value} {x y : Nd} (ha : Binds A va (toV x)) (hb : Binds B vb (toV y)) (hx : NonLit x) (hy : NonLit y) : Binds 60 (.agg #[.iface A va, .iface B vb]) (toV (dec x y)) :=
  ⟨52, meth60 _, call52, fun w => orbind_any A B va vb x y ha hb hx hy w⟩

/-- What not.bind makes of the bound operand. -/
def neg : Nd → Nd
  | .inl b => .inl !b
  | .inr x => .inr (56, .agg #[.iface x.1 x.2])

set_option maxRecDepth 100000 in
set_option maxHeartbeats 1000000 in
theorem notbind_any (A : TypeId) (va : Value) (x : Nd) (ha : Binds A va (toV x)) (hx : NonLit x) (w : World) :
    Calls Try.prog 21 #[.agg #[.iface A va], .map none] w fun e w' => e = .returned (toV (neg x)) ∧ Below w.heap.size w w' := by
  obtain ⟨fa, ma, ca, Ha0⟩ := ha
  have Ha := hid Ha0
  clear Ha0
  match x, hx with
  | .inl b, _ =>
    have Ha' : Hid (∀ w, Calls Try.prog fa #[va, .map none] w fun e w' => e = .returned (litB b) ∧ Below w.heap.size w w') := Ha
    clear Ha
    go_enter Try.func21, Try.ntmps21
    go_wp2_with fail
    refine (Ha'.out _).mono ?_
    rintro e w1 ⟨rfl, hb1⟩
    have B1 := hid (below_next ((Below.refl w.heap.size w).alloc (Nat.le_refl _) (.cells #[.iface A va] 56)) hb1)
    clear hb1
    go_wp2_with fail
    refine (fold_not_lit b _ _ _ ?_).mono ?_
    · simp
    rintro e w2 ⟨rfl, hb2⟩
    go_wp2_with fail
    go_ret
    exact ⟨rfl, below_next ((B1.out.alloc B1.out.size _).alloc (by have := B1.out.size; simp; omega) _) hb2⟩
  | .inr (T, v), hT =>
    have Ha' : Hid (∀ w, Calls Try.prog fa #[va, .map none] w fun e w' => e = .returned (.iface T v) ∧ Below w.heap.size w w') := Ha
    clear Ha
    go_enter Try.func21, Try.ntmps21
    go_wp2_with fail
    refine (Ha'.out _).mono ?_
    rintro e w1 ⟨rfl, hb1⟩
    have B1 := hid (below_next ((Below.refl w.heap.size w).alloc (Nat.le_refl _) (.cells #[.iface A va] 56)) hb1)
    clear hb1
    go_wp2_with fail
    refine (fold_non _ _ 0 _ T v _ hT ?_).mono ?_
    · simp
    rintro e w2 ⟨rfl, hb2⟩
    go_wp2_with fail
    go_ret
    exact ⟨rfl, below_next ((B1.out.alloc B1.out.size _).alloc (by have := B1.out.size; simp; omega) _) hb2⟩

theorem binds_not {A : TypeId} {va : Value} {x : Nd} (ha : Binds A va (toV x)) (hx : NonLit x) : Binds 56 (.agg #[.iface A va]) (toV (neg x)) :=
  ⟨21, meth56 _, call21, fun w => notbind_any A va x ha hx w⟩
end Go.Proofs.Qxb6613839a
