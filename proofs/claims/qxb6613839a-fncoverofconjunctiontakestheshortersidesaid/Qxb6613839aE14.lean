import Derived.Test.Qxb6613839aE13
namespace Go.Proofs.Qxb6613839a
open Go.RowKit
set_option linter.unusedVariables false
set_option linter.unusedSimpArgs false
attribute [local go_sem] hit65 hit56 hit60 hit69 hit68 hit4 hit9 miss65 miss56 miss85 miss60 miss88 miss68 look_nil meth65 meth68 meth69 meth60 meth56 eval65 eval56

/-- A pointer to an expression: the block and the node in it. -/
def Expr (w : World) (p : Nat) (T : TypeId) (v : Value) : Prop := w.cell? ⟨p, 0, none⟩ = some (.iface T v)
theorem Expr.below {w w' : World} {p : Nat} {T : TypeId} {v : Value} (h : Expr w p T v) (hb : Below w.heap.size w w') : Expr w' p T v := cell_keep h hb

theorem or1_any (A B : TypeId) (va vb : Value) (w : World) :
    Calls Try.prog 23 #[.iface A va, .iface B vb] w fun e w' => e = .returned (.iface 60 (.agg #[.iface A va, .iface B vb])) ∧ Below w.heap.size w w' := by
  go_enter Try.func23, Try.ntmps23
  go_wp2
  go_ret
  exact ⟨rfl, by repeat (first | exact Below.refl _ _ | refine Below.drew ?_ | refine Below.alloc ?_ (by simp <;> omega) _)⟩

/-- A slice of pointers to expressions. -/
def Ptrs (w : World) (a : Option Addr) (n : Nat) (ys : List Nd) : Prop :=
  n = ys.length ∧ (n = 0 ∨ ∃ b off, a = some ⟨b, off, none⟩ ∧ ∀ i y, ys[i]? = some y → ∃ p, w.cell? ⟨b, off + i, none⟩ = some (.pointer (some ⟨p, 0, none⟩)) ∧ Expr w p (ndPair y).1 (ndPair y).2)
theorem Ptrs.below {w w' : World} {a : Option Addr} {n : Nat} {ys : List Nd} (h : Ptrs w a n ys) (hb : Below w.heap.size w w') : Ptrs w' a n ys := by
  obtain ⟨h1, h2⟩ := h
  rcases h2 with h2 | ⟨b, off, ha, h⟩
  · exact ⟨h1, .inl h2⟩
  refine ⟨h1, .inr ⟨b, off, ha, fun i y hi => ?_⟩⟩
  obtain ⟨p, hp, he⟩ := h i y hi
  exact ⟨p, cell_keep hp hb, he.below hb⟩

set_option maxRecDepth 100000 in
set_option maxHeartbeats 1000000 in
theorem join_any (a : Option Addr) (n c : Nat) (ys : List Nd) (RT : TypeId) (RV : Value) (w : World) (hP : Ptrs w a n ys) (hB : Binds (rawOf ys).1 (rawOf ys).2 (.iface RT RV)) (hn : n ≤ 100000) :
    Calls Try.prog 22 #[.slice a n c, .bool false, .func (.func 23) #[] #[]] w fun e w' => ∃ p, e = .returned (.pointer (some ⟨p, 0, none⟩)) ∧ Expr w' p RT RV ∧ Below w.heap.size w w' := by
  have HP := hid hP
  have HB := hid hB
  clear hP hB
  go_enter Try.func22, Try.ntmps22
  go_wp2_with fail
  go_loopw [7, 16] (fun r i wr => ∃ k : Nat, k ≤ n ∧ i = .int .i64 k ∧ r = .iface (rawOf (ys.take k)).1 (rawOf (ys.take k)).2 ∧ Below w.heap.size w wr) (fun _ i _ => n - (intOf i).toNat)
  case atStart => exact ⟨0, by omega, rfl, rfl, by repeat (first | exact Below.refl _ _ | refine Below.drew ?_ | refine Below.alloc ?_ (by simp <;> omega) _)⟩
  case round =>
    obtain ⟨k, hk, rfl, rfl, hbel⟩ := hrel
    by_cases hlt : k < n
    · obtain ⟨hlen, hor⟩ := HP.out.below (w' := wr) hbel
      rcases hor with h0 | ⟨b, off, rfl, hcell⟩
      · omega
      have hkl : k < ys.length := by omega
      obtain ⟨p, hc1, hc2⟩ := hcell k _ (List.getElem?_eq_getElem hkl)
      have HN : Hid (rawOf (ys.take (k + 1)) = rawStep (rawOf (ys.take k)) (ndPair ys[k])) := by
        rw [List.take_succ_eq_append_getElem hkl]; exact rawOf_snoc _ _
      have BEL := hid hbel
      clear hcell hbel hlen
      generalize rawOf (ys.take k) = R at *
      generalize ndPair ys[k] = Y at *
      obtain ⟨A, va⟩ := R
      obtain ⟨B, vb⟩ := Y
      unfold Expr at hc2
      simp only at hc2
      go_wp2_with (go_at_call 23; refine (or1_any A B va vb _).mono ?_; rintro e w1 ⟨rfl, hb1⟩)
      go_roundw
      case rel => exact ⟨k + 1, by omega, by go_num, by rw [HN.out]; rfl, below_next BEL.out hb1⟩
      case measure => simp [intOf]; omega
    · have hkn : k = n := by omega
      subst hkn
      have hlen := HP.out.1
      rw [hlen, List.take_length] at *
      have BEL := hid hbel
      clear hbel
      obtain ⟨f, mf, cf, Hf0⟩ := HB.out
      clear HB
      have Hf := hid Hf0
      clear Hf0
      generalize rawOf ys = R at *
      obtain ⟨A, va⟩ := R
      simp only at mf Hf
      go_wp2_with (refine (Hf.out _).mono ?_; rintro e w1 ⟨rfl, hb1⟩)
      go_ret
      exact ⟨_, rfl, by unfold Expr; simp, (below_next BEL.out hb1).alloc (below_next BEL.out hb1).size _⟩

theorem or_any (a : Option Addr) (n c : Nat) (ys : List Nd) (RT : TypeId) (RV : Value) (w : World) (hP : Ptrs w a n ys) (hB : Binds (rawOf ys).1 (rawOf ys).2 (.iface RT RV)) (hn : n ≤ 100000) :
    Calls Try.prog 9 #[.slice a n c] w fun e w' => ∃ p, e = .returned (.pointer (some ⟨p, 0, none⟩)) ∧ Expr w' p RT RV ∧ Below w.heap.size w w' := by
  have HP := hid hP
  have HB := hid hB
  clear hP hB
  go_enter Try.func9, Try.ntmps9
  go_wp2_with fail
  refine (join_any a n c ys RT RV _ HP.out HB.out hn).mono ?_
  rintro e w1 ⟨p, rfl, he, hb1⟩
  go_wp2_with fail
  go_ret
  exact ⟨_, rfl, he, hb1⟩

/-- Or of good nodes. -/
theorem or_nodes {ys : List Nd} {ls : List Tm} (h : AllGood ys ls) (hl : ls.flatten.length ≤ 100000) (a : Option Addr) (n c : Nat) (w : World) (hP : Ptrs w a n ys) (hn : n ≤ 100000) :
    Calls Try.prog 9 #[.slice a n c] w fun e w' => ∃ p, e = .returned (.pointer (some ⟨p, 0, none⟩)) ∧ Expr w' p (ndPair (ndOf ys)).1 (ndPair (ndOf ys)).2 ∧ Below w.heap.size w w' := by
  have hb := (or_good h hl).2
  rw [toV_pair] at hb
  exact or_any a n c ys _ _ w hP hb hn

set_option maxRecDepth 100000 in
set_option maxHeartbeats 1000000 in
theorem not_any (p : Nat) (x : Nd) (w : World) (hx : NonLit x) (hb : Binds (ndPair x).1 (ndPair x).2 (toV x)) (hP : Expr w p (ndPair x).1 (ndPair x).2) :
    Calls Try.prog 8 #[.pointer (some ⟨p, 0, none⟩)] w fun e w' => ∃ q, e = .returned (.pointer (some ⟨q, 0, none⟩)) ∧ Expr w' q (ndPair (neg x)).1 (ndPair (neg x)).2 ∧ Below w.heap.size w w' := by
  have HN := hid (fun w => notbind_any _ _ x hb hx w)
  rw [toV_pair (neg x)] at HN
  unfold Expr at hP
  clear hb hx
  generalize ndPair x = P at *
  obtain ⟨A, va⟩ := P
  generalize ndPair (neg x) = Q at *
  obtain ⟨B, vb⟩ := Q
  simp only at hP HN
  go_enter Try.func8, Try.ntmps8
  go_wp2_with fail
  refine (HN.out _).mono ?_
  rintro e w1 ⟨rfl, hb1⟩
  go_wp2_with fail
  go_ret
  exact ⟨_, rfl, by unfold Expr; simp, hb1.alloc hb1.size _⟩

set_option maxRecDepth 100000 in
set_option maxHeartbeats 1000000 in
theorem eqvn_any (p s : ByteArray) (w : World) :
    Calls Try.prog 12 #[.string p, .string s] w fun e w' => ∃ q, e = .returned (.pointer (some ⟨q, 0, none⟩)) ∧ w.heap.size ≤ q ∧ Expr w' q 69 (leafPay p s true) ∧ Below w.heap.size w w' := by
  go_enter Try.func12, Try.ntmps12
  go_wp2
  go_ret
  exact ⟨_, rfl, by first | exact Nat.le_refl _ | (simp; omega) | omega, by unfold Expr; simp [leafPay], by repeat (first | exact Below.refl _ _ | refine Below.drew ?_ | refine Below.alloc ?_ (by simp <;> omega) _)⟩

set_option maxRecDepth 100000 in
set_option maxHeartbeats 1000000 in
theorem eqnv_any (p s : ByteArray) (w : World) :
    Calls Try.prog 13 #[.string p, .string s] w fun e w' => ∃ q, e = .returned (.pointer (some ⟨q, 0, none⟩)) ∧ w.heap.size ≤ q ∧ Expr w' q 69 (leafPay p s false) ∧ Below w.heap.size w w' := by
  go_enter Try.func13, Try.ntmps13
  go_wp2
  go_ret
  exact ⟨_, rfl, by first | exact Nat.le_refl _ | (simp; omega) | omega, by unfold Expr; simp [leafPay], by repeat (first | exact Below.refl _ _ | refine Below.drew ?_ | refine Below.alloc ?_ (by simp <;> omega) _)⟩
end Go.Proofs.Qxb6613839a
