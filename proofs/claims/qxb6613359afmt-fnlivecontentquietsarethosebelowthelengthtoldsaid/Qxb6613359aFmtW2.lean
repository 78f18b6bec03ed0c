import Derived.Test.Qxb6613359aFmtW1
namespace Go.Proofs.Qxb6613359aFmt
open Go.RowKit Go.Extern.Stop Go.Stop Go.Extern
set_option linter.unusedVariables false

theorem Viol.from {w w1 w2 : World} {e : Ending} (h : Viol w e w1) (hb : Below w1.heap.size w1 w2) : Viol w e w2 := by
  obtain ⟨b, s, h1, h2, h3, h4⟩ := h
  exact ⟨b, s, h1, h2, (hb.block b (lt_of_block h3)).trans h3, h4.trans (hb.mono h4.size)⟩

/-- A slice of terms that came in: empty (its address whatever), or at b, off. -/
def TermRow (w : World) (a : Option Addr) (len : Nat) (z : Nat → Int) : Prop :=
  len = 0 ∨ ∃ b off, a = some ⟨b, off, none⟩ ∧ ∀ i, i < len → w.cell? ⟨b, off + i, none⟩ = some (.int .u64 (z i))
theorem TermRow.get {w : World} {a : Option Addr} {len : Nat} {z : Nat → Int} (h : TermRow w a len z) (hl : 0 < len) : ∃ b off, a = some ⟨b, off, none⟩ ∧ ∀ i, i < len → w.cell? ⟨b, off + i, none⟩ = some (.int .u64 (z i)) := by
  rcases h with h | h
  · omega
  · exact h
theorem TermRow.below {w w' : World} {a : Option Addr} {len : Nat} {z : Nat → Int} (h : TermRow w a len z) (hb : Below w.heap.size w w') : TermRow w' a len z := by
  rcases h with h | ⟨b, off, h1, h2⟩
  · exact .inl h
  · exact .inr ⟨b, off, h1, fun i hi => (hb.cell (World.block_lt_of_cell? w _ (h2 i hi))).trans (h2 i hi)⟩

/-- What became of memory behind the reading of terms: they are nondecreasing, or not. -/
theorem nondec_any (a : Option Addr) (len cap : Nat) (z : Nat → Int) (w : World) (hlen : len ≤ 1000000) (hlc : len ≤ cap) (hrow : TermRow w a len z) :
    Calls Tryf.prog 6 #[.slice a len cap] w fun e w' => ∃ r, e = .returned (.bool r) ∧ ∃ n, w' = w.drewN n := by
  go_enter Tryf.func6, Tryf.ntmps6
  go_wp2_with fail
  go_loopw [3] (fun i wx => ∃ (k nq : Nat), k ≤ len ∧ i = .int .i64 ((k : Int) + 1) ∧ wx = w.drewN nq) (fun i _ => len - (intOf i).toNat)
  case atStart => exact ⟨0, 0, by omega, rfl, rfl⟩
  case round =>
    obtain ⟨k, nq, hk, rfl, rfl⟩ := hrel
    by_cases hlt : k + 1 < len
    · obtain ⟨b, off, rfl, hc⟩ := hrow.get (by omega)
      have h0 := hc k (by omega)
      have h1 := hc (k + 1) hlt
      have b1 : (0 : Int) ≤ (k : Int) + 1 := by omega
      have b2 : (k : Int) + 1 < (len : Int) := by omega
      have b3 : (k : Int) < (len : Int) := by omega
      clear hc hrow
      go_wp2_with fail
      go_quiet (fail)
      go_wp2
      · go_ret
        exact ⟨_, rfl, _, World.drewN_drewN _ _ _⟩
      · go_roundw
        case rel => exact ⟨k + 1, _, by omega, by go_num, rfl⟩
        case measure => simp [intOf]; omega
    · go_wp2
      go_ret
      exact ⟨_, rfl, _, rfl⟩

set_option maxHeartbeats 400000 in
theorem leader_yes (t : Int) (w : World) :
    Calls Tryf.prog 7 #[.bool true, .int .u64 t] w fun e w' => e = .returned (.pointer (some ⟨w.heap.size, 0, none⟩)) ∧ w'.cell? ⟨w.heap.size, 2, none⟩ = some (.int .u64 t) ∧ Below w.heap.size w w' := by
  go_enter Tryf.func7, Tryf.ntmps7
  go_wp2
  go_ret
  exact ⟨rfl, by simp, (Below.refl _ _).alloc (Nat.le_refl _) _⟩

theorem leader_no (t : Int) (w : World) :
    Calls Tryf.prog 7 #[.bool false, .int .u64 t] w fun e w' => e = .returned (.pointer none) ∧ w' = w := by
  go_enter Tryf.func7, Tryf.ntmps7
  go_wp2
  go_ret
  exact ⟨rfl, rfl⟩

theorem checker_any (v : Value) (g m : Nat) (w : World) :
    Calls Tryf.prog 8 #[.slice (some ⟨g, 0, none⟩) m m] w fun e w' => e = .returned (.pointer (some ⟨w.heap.size, 0, none⟩)) ∧ w'.cell? ⟨w.heap.size, 3, none⟩ = some (.slice (some ⟨g, 0, none⟩) m m) ∧ Below w.heap.size w w' := by
  go_enter Tryf.func8, Tryf.ntmps8
  go_wp2
  go_ret
  exact ⟨rfl, by simp, (Below.refl _ _).alloc (Nat.le_refl _) _⟩

theorem property_any (b : Nat) (s : ByteArray) (w : World) (h : w.cell? ⟨b, 0, none⟩ = some (.string s)) :
    Calls Tryf.prog 11 #[.pointer (some ⟨b, 0, none⟩)] w fun e w' => e = .returned (.string s) ∧ w' = w := by
  go_enter Tryf.func11, Tryf.ntmps11
  go_wp2
  go_ret
  exact ⟨rfl, rfl⟩

theorem entry_any (t : Int) (w : World) :
    Calls Tryf.prog 13 #[.int .u64 t] w fun e w' => e = .returned (.agg #[.int .u64 t, .int .u64 0, .int .u64 0]) ∧ w' = w.alloc (.cells #[.int .u64 t, .int .u64 0, .int .u64 0] 49) := by
  go_enter Tryf.func13, Tryf.ntmps13
  go_wp2
  exact bodyPost_ret (v := .agg #[.int .u64 t, .int .u64 0, .int .u64 0]) (by simp [results, Tryf.results13, go_sem]) rfl ⟨rfl, rfl⟩
end Go.Proofs.Qxb6613359aFmt
