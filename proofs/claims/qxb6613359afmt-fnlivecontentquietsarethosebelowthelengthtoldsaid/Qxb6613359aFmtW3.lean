import Derived.Test.Qxb6613359aFmtW2
namespace Go.Proofs.Qxb6613359aFmt
open Go.RowKit Go.Extern.Stop Go.Stop Go.Extern
set_option linter.unusedVariables false

theorem Tryf.info49 : (Tryf.prog.info? 49).map (fun i => (i.zero, i.size, i.bytes)) = some (some (.agg #[.int .u64 0, .int .u64 0, .int .u64 0]), 3, 24) := by kernel_rfl

/-- Block g is a row of m entries, of which the first k bear the terms z. -/
def Ents (g m k : Nat) (z : Nat → Int) (w : World) : Prop :=
  ∃ cur, w.heap[g]? = some (.cells cur 49 (0, 0)) ∧ cur.size = m * 3 ∧ ∀ i, i < k → cur[i * 3]? = some (.int .u64 (z i))

theorem Ents.cell {g m k : Nat} {z : Nat → Int} {w : World} (h : Ents g m k z w) (i : Nat) (hi : i < k) : w.cell? ⟨g, i * 3, none⟩ = some (.int .u64 (z i)) := by
  obtain ⟨cur, h1, _, h3⟩ := h
  simp [World.cell?, h1, h3 i hi]
theorem Ents.there {g m k : Nat} {z : Nat → Int} {w : World} (h : Ents g m k z w) (j : Nat) (hj : j < m * 3) : (∃ v, w.cell? ⟨g, j, none⟩ = some v) ∧ w.frozen? ⟨g, j, none⟩ = false := by
  obtain ⟨cur, h1, h2, _⟩ := h
  refine ⟨⟨cur[j]'(by omega), ?_⟩, ?_⟩
  · simp [World.cell?, h1, h2, hj]
  · simp [World.frozen?, h1]
theorem Ents.alloc {g m k : Nat} {z : Nat → Int} {w : World} (h : Ents g m k z w) (o : Obj) : Ents g m k z (w.alloc o) := by
  obtain ⟨cur, h1, h2, h3⟩ := h
  exact ⟨cur, (Below.heap_alloc _ _ _ (lt_of_block h1)).trans h1, h2, h3⟩
theorem Ents.below {g m k : Nat} {z : Nat → Int} {w w' : World} (h : Ents g m k z w) (hb : Below w.heap.size w w') : Ents g m k z w' := by
  obtain ⟨cur, h1, h2, h3⟩ := h
  exact ⟨cur, (hb.block _ (lt_of_block h1)).trans h1, h2, h3⟩
theorem set_row {w : World} {b k : Nat} {c : Array Value} {t : TypeId} (h : w.heap[b]? = some (.cells c t (0, 0))) (v : Value) : (w.setCell ⟨b, k, none⟩ v).heap[b]? = some (.cells (c.setIfInBounds k v) t (0, 0)) := heap_setCell_same w b k c t v h
theorem Ents.stored {g m k : Nat} {z : Nat → Int} {w : World} (h : Ents g m k z w) (hk : k < m) :
    Ents g m (k + 1) z (((w.setCell ⟨g, k * 3, none⟩ (.int .u64 (z k))).setCell ⟨g, k * 3 + 1, none⟩ (.int .u64 0)).setCell ⟨g, k * 3 + 2, none⟩ (.int .u64 0)) := by
  obtain ⟨cur, h1, h2, h3⟩ := h
  refine ⟨_, set_row (set_row (set_row h1 _) _) _, by simpa using h2, ?_⟩
  intro i hi
  rw [Array.getElem?_setIfInBounds_ne (by omega), Array.getElem?_setIfInBounds_ne (by omega)]
  by_cases hik : i = k
  · subst hik
    rw [Array.getElem?_setIfInBounds_self_of_lt (by omega)]
  · rw [Array.getElem?_setIfInBounds_ne (by omega)]
    exact h3 i (by omega)

set_option maxRecDepth 100000 in
set_option maxHeartbeats 1000000 in
theorem entries_any (a : Option Addr) (len cap : Nat) (z : Nat → Int) (extra : Int) (w : World) (hlen : len ≤ 1000000) (hlc : len ≤ cap) (hrow : TermRow w a len z) :
    Calls Tryf.prog 9 #[.slice a len cap, .int .u64 extra, .bool false] w fun e w' => ∃ g, e = .returned (.slice (some ⟨g, 0, none⟩) len len) ∧ w.heap.size ≤ g ∧ Ents g len len z w' ∧ Below w.heap.size w w' := by
  obtain ⟨i0, hi, hz0, hz1, hz2⟩ := info_parts Tryf.info49
  go_enter Tryf.func9, Tryf.ntmps9
  go_wp2_with (at_make; refine wpList_make_full _ rfl _ _ 30 rfl w.heap.size 49 i0 (.agg #[.int .u64 0, .int .u64 0, .int .u64 0]) 3 Tryf.underlying30 hi hz0 hz1 _ _ _ _ len rfl rfl rfl rfl (by rw [hz2]; omega) (by unfold maxLen; omega) (Nat.le_refl _) ?_)
  intro w1 hown hgrow
  have hE : Ents w.heap.size len 0 z w1 := by
    rcases hown.2 with ⟨h, _⟩ | ⟨g, cp, cur, h, _, hh, _, _, hs, _⟩
    · simp at h
    · simp at h
      obtain ⟨rfl, rfl⟩ := h
      exact ⟨cur, hh, hs, fun i hi => by omega⟩
  have hbel : Below w.heap.size w w1 := (Below.refl _ _).grown hgrow (Nat.le_refl _) (fun k hk => by cases hk)
  have K : Hid _ := And.intro hE hbel
  clear hown hgrow hE hbel
  go_wp2_with fail
  go_loopw [10] (fun i wx => ∃ k : Nat, k ≤ len ∧ i = .int .i64 k ∧ Ents w.heap.size len k z wx ∧ Below w.heap.size w wx) (fun i _ => len - (intOf i).toNat)
  case atStart => exact ⟨0, by omega, rfl, K.out⟩
  case round =>
    obtain ⟨k, hk, rfl, hE, hbel⟩ := hrel
    by_cases hlt : k < len
    · obtain ⟨b, off, rfl, hc⟩ := hrow.get (by omega)
      have h0 : wr.cell? ⟨b, off + k, none⟩ = some (.int .u64 (z k)) := (hbel.cell (World.block_lt_of_cell? w _ (hc k hlt))).trans (hc k hlt)
      have K2 : Hid _ := And.intro hE hbel
      clear hc hrow hE hbel K
      go_wp2_with fail
      refine (entry_any _ _).mono ?_
      rintro e w2 ⟨rfl, hw2⟩
      have K3 : Hid (Ents w.heap.size len k z w2 ∧ Below w.heap.size w w2) := by
        rw [hw2]
        exact ⟨K2.out.1.alloc _, K2.out.2.alloc (by have := K2.out.2.size; omega) _⟩
      clear hw2 K2
      obtain ⟨⟨v0, c0⟩, f0⟩ := K3.out.1.there (k * 3) (by omega)
      obtain ⟨⟨v1, c1⟩, f1⟩ := K3.out.1.there (k * 3 + 1) (by omega)
      obtain ⟨⟨v2, c2⟩, f2⟩ := K3.out.1.there (k * 3 + 2) (by omega)
      go_wp2
      go_roundw
      case rel => exact ⟨k + 1, by omega, by go_num, K3.out.1.stored hlt, ((K3.out.2.setCell (Nat.le_refl _) _).setCell (Nat.le_refl _) _).setCell (Nat.le_refl _) _⟩
      case measure => simp [intOf]; omega
    · have hk' : k = len := by omega
      subst hk'
      have K2 : Hid _ := And.intro hE hbel
      clear hrow hE hbel K
      go_wp2
      go_ret
      exact ⟨_, rfl, Nat.le_refl _, K2.out⟩

set_option maxRecDepth 100000 in
set_option maxHeartbeats 1000000 in
theorem entries_add (a : Option Addr) (len cap : Nat) (z : Nat → Int) (w : World) (hlen : len ≤ 900000) (hlc : len ≤ cap) (hrow : TermRow w a len z) :
    Calls Tryf.prog 9 #[.slice a len cap, .int .u64 (z len), .bool true] w fun e w' => ∃ g, e = .returned (.slice (some ⟨g, 0, none⟩) (len + 1) (len + 1)) ∧ w.heap.size ≤ g ∧ Ents g (len + 1) (len + 1) z w' ∧ Below w.heap.size w w' := by
  obtain ⟨i0, hi, hz0, hz1, hz2⟩ := info_parts Tryf.info49
  obtain ⟨extra, hx⟩ : ∃ extra, z len = extra := ⟨_, rfl⟩
  rw [hx]
  have HX : Hid (z len = extra) := hx
  clear hx
  go_enter Tryf.func9, Tryf.ntmps9
  go_wp2_with (at_make; refine wpList_make_full _ rfl _ _ 30 rfl w.heap.size 49 i0 (.agg #[.int .u64 0, .int .u64 0, .int .u64 0]) 3 Tryf.underlying30 hi hz0 hz1 _ _ _ _ (len + 1) rfl rfl (by simp) (by simp) (by rw [hz2]; omega) (by unfold maxLen; omega) (Nat.le_refl _) ?_)
  intro w1 hown hgrow
  have hE : Ents w.heap.size (len + 1) 0 z w1 := by
    rcases hown.2 with ⟨h, _⟩ | ⟨g, cp, cur, h, _, hh, _, _, hs, _⟩
    · simp at h
    · simp at h
      obtain ⟨rfl, rfl⟩ := h
      exact ⟨cur, hh, hs, fun i hi => by omega⟩
  have hbel : Below w.heap.size w w1 := (Below.refl _ _).grown hgrow (Nat.le_refl _) (fun k hk => by cases hk)
  have K : Hid _ := And.intro hE hbel
  clear hown hgrow hE hbel
  go_wp2_with fail
  go_loopw [10] (fun i wx => ∃ k : Nat, k ≤ len ∧ i = .int .i64 k ∧ Ents w.heap.size (len + 1) k z wx ∧ Below w.heap.size w wx) (fun i _ => len - (intOf i).toNat)
  case atStart => exact ⟨0, by omega, rfl, K.out⟩
  case round =>
    obtain ⟨k, hk, rfl, hE, hbel⟩ := hrel
    by_cases hlt : k < len
    · obtain ⟨b, off, rfl, hc⟩ := hrow.get (by omega)
      have h0 : wr.cell? ⟨b, off + k, none⟩ = some (.int .u64 (z k)) := (hbel.cell (World.block_lt_of_cell? w _ (hc k hlt))).trans (hc k hlt)
      have K2 : Hid _ := And.intro hE hbel
      clear hc hrow hE hbel K
      go_wp2_with fail
      refine (entry_any _ _).mono ?_
      rintro e w2 ⟨rfl, hw2⟩
      have K3 : Hid (Ents w.heap.size (len + 1) k z w2 ∧ Below w.heap.size w w2) := by
        rw [hw2]
        exact ⟨K2.out.1.alloc _, K2.out.2.alloc (by have := K2.out.2.size; omega) _⟩
      clear hw2 K2
      obtain ⟨⟨v0, c0⟩, f0⟩ := K3.out.1.there (k * 3) (by omega)
      obtain ⟨⟨v1, c1⟩, f1⟩ := K3.out.1.there (k * 3 + 1) (by omega)
      obtain ⟨⟨v2, c2⟩, f2⟩ := K3.out.1.there (k * 3 + 2) (by omega)
      go_wp2
      go_roundw
      case rel => exact ⟨k + 1, by omega, by go_num, K3.out.1.stored (by omega), ((K3.out.2.setCell (Nat.le_refl _) _).setCell (Nat.le_refl _) _).setCell (Nat.le_refl _) _⟩
      case measure => simp [intOf]; omega
    · have hk' : k = len := by omega
      subst hk'
      have K2 : Hid _ := And.intro hE hbel
      clear hrow hE hbel K
      go_wp2_with fail
      refine (entry_any _ _).mono ?_
      rintro e w2 ⟨rfl, hw2⟩
      have K3 : Hid (Ents w.heap.size (k + 1) k z w2 ∧ Below w.heap.size w w2) := by
        rw [hw2]
        exact ⟨K2.out.1.alloc _, K2.out.2.alloc (by have := K2.out.2.size; omega) _⟩
      clear hw2 K2
      obtain ⟨⟨v0, c0⟩, f0⟩ := K3.out.1.there (k * 3) (by omega)
      obtain ⟨⟨v1, c1⟩, f1⟩ := K3.out.1.there (k * 3 + 1) (by omega)
      obtain ⟨⟨v2, c2⟩, f2⟩ := K3.out.1.there (k * 3 + 2) (by omega)
      go_wp2
      go_ret
      have K4 := K3.out.1.stored (Nat.lt_succ_self k)
      rw [HX.out] at K4
      exact ⟨_, rfl, Nat.le_refl _, K4, ((K3.out.2.setCell (Nat.le_refl _) _).setCell (Nat.le_refl _) _).setCell (Nat.le_refl _) _⟩

end Go.Proofs.Qxb6613359aFmt
