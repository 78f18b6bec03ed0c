import Derived.Test.Qxb6613839aE19
namespace Go.Proofs.Qxb6613839a
open Go.RowKit
set_option linter.unusedVariables false
set_option linter.unusedSimpArgs false

theorem cellN {w w1 : World} {B k : Nat} {v : Value} (h : w.cell? ⟨B, k, none⟩ = some v) (hB : B < w.heap.size) (hb : Below w.heap.size w w1) : w1.cell? ⟨B, k, none⟩ = some v := (hb.cell (p := ⟨B, k, none⟩) hB).trans h
theorem frozenN {w w1 : World} {B k : Nat} (h : w.frozen? ⟨B, k, none⟩ = false) (hB : B < w.heap.size) (hb : Below w.heap.size w w1) : w1.frozen? ⟨B, k, none⟩ = false := (hb.frozen (p := ⟨B, k, none⟩) hB).trans h

set_option maxRecDepth 100000 in
set_option maxHeartbeats 2000000 in
theorem disj1_any (p : ByteArray) (a : Option Addr) (n c : Nat) (s : Nat → ByteArray) (w : World) (h : Strs w a n s) (hn : n ≤ 4096) :
    Calls Try.prog 7 #[.string p, .slice a n c] w (Gives w (ndPair (ndOf (nds (fun _ => p) s (fun _ => false) n))).1 (ndPair (ndOf (nds (fun _ => p) s (fun _ => false) n))).2) := by
  have H := hid h
  have OR := hid (fun W c' (hE : Es W w.heap.size n n (fun _ => p) s (fun _ => false)) => or_nodes (nds_good (fun _ => p) s (fun _ => false) n) (by rw [tms_flat, prs_length]; omega) (some ⟨w.heap.size, 0, none⟩) n c' W hE.whole (by omega))
  generalize (ndPair (ndOf (nds (fun _ => p) s (fun _ => false) n))).1 = T at *
  generalize (ndPair (ndOf (nds (fun _ => p) s (fun _ => false) n))).2 = v at *
  clear h
  have hmk := make35 n hn
  go_enter Try.func7, Try.ntmps7
  go_wp2_with fail
  go_loopw [6] (fun i wr => ∃ k : Nat, k ≤ n ∧ i = .int .i64 k ∧ Es wr w.heap.size n k (fun _ => p) s (fun _ => false) ∧ Below w.heap.size w wr) (fun i _ => n - (intOf i).toNat)
  case atStart => exact ⟨0, by omega, rfl, Es.start rfl, (Below.refl _ _).alloc (Nat.le_refl _) _⟩
  case round =>
    clear hmk
    obtain ⟨k3, hk3, rfl, hes, hbel⟩ := hrel
    by_cases hlt3 : k3 < n
    · obtain ⟨b0, off0, rfl, hc0'⟩ := (H.out.below hbel).at hlt3
      obtain ⟨x, hcB, hfB⟩ := hes.at hlt3
      have hB := hes.lt
      have PUT := hid (fun (w1 : World) (q : Nat) hb hq he => hes.put (w1 := w1) (q := q) hlt3 hb hq he)
      clear hes
      go_wp2_with (go_at_call 13; refine (eqnv_any _ _ _).mono ?_; rintro e w1 ⟨q, rfl, hq, he, hb1⟩; have hcB1 := cellN hcB hB hb1; have hfB1 := frozenN hfB hB hb1)
      have FIN := hid (And.intro (PUT.out w1 q hb1 hq he) ((below_next hbel hb1).setCell (p := ⟨w.heap.size, k3, none⟩) (Nat.le_refl _) (.pointer (some ⟨q, 0, none⟩))))
      clear hcB1 hfB1 hb1 he hq
      go_wp2
      go_roundw
      case rel => exact ⟨k3 + 1, by omega, by go_num, FIN.out.1, FIN.out.2⟩
      case measure => simp [intOf]; omega
    · have hkn : k3 = n := by omega
      rw [hkn] at hes
      clear hkn
      have ES := hid hes
      have BE3 := hid hbel
      clear hes hbel
      go_wp2_with fail
      refine (OR.out _ _ ES.out).mono ?_
      rintro e w3 ⟨p1, rfl, he1, hb3⟩
      go_wp2_with fail
      go_ret
      exact ⟨_, rfl, he1, below_next BE3.out hb3⟩
end Go.Proofs.Qxb6613839a
