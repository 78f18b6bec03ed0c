import Derived.Test.Qxb6613837aW20
namespace Go.Proofs.Qxb6613837a
open Go.RowKit
set_option linter.unusedVariables false
set_option linter.unusedSimpArgs false

theorem Ints.kept {w w' : World} {a : Option Addr} {n : Nat} {f : Nat → Int} (h : Ints w a n f) (K : Kept (fun _ => False) w w') : Ints w' a n f :=
  ⟨h.1, by
    rcases h.2 with h2 | ⟨b, off, ha, hc⟩
    · exact .inl h2
    · exact .inr ⟨b, off, ha, fun i hi => kept_cell (hc i hi) K id⟩⟩
theorem Strs.kept {w w' : World} {a : Option Addr} {n : Nat} {s : Nat → ByteArray} (h : Strs w a n s) (K : Kept (fun _ => False) w w') : Strs w' a n s :=
  by
    rcases h with h2 | ⟨b, off, ha, hc⟩
    · exact .inl h2
    · exact .inr ⟨b, off, ha, fun i hi => kept_cell (hc i hi) K id⟩

theorem apS_iff (s : Nat → ByteArray) (i j : Nat) : apS s i j = true ↔ (s i).toList ≠ (s j).toList := by
  unfold apS
  simp
theorem half_short {k : Nat} {s : Nat → ByteArray} (h : (flowOf k (apS s)).1 < 2 * k) {r : Bool} (hr : HalfPost s k r) : r = false := by
  obtain ⟨i, hi, hc⟩ := pairs_short (hst := fun i => (s i).toList) (fun i j _ _ => apS_iff s i j) h
  cases r with
  | false => rfl
  | true =>
    have := hr.1 rfl i hi
    unfold cnt at this
    omega
theorem half_full {k : Nat} {s : Nat → ByteArray} (h : 2 * k ≤ (flowOf k (apS s)).1) {r : Bool} (hr : HalfPost s k r) : r = true := by
  obtain ⟨p1, p2, p3⟩ := pairs_full h
  refine hr.2 fun i hi => ?_
  exact half_ok (X := pairX k (apS s)) (hst := fun i => (s i).toList) (fun a b ha hb hp => (apS_iff s a b).1 ((p1 a b ha hb).2 hp)) p2 p3 i

set_option maxRecDepth 100000 in
set_option maxHeartbeats 4000000 in
theorem ignore_any (a0 a1 a2 : Option Addr) (n0 c0 n1 c1 n2 c2 : Nat) (fA fB : Nat → Int) (s : Nat → ByteArray) (w : World) (hA : Ints w a0 n0 fA) (hB : Ints w a1 n1 fB) (hS : Strs w a2 n2 s) (hS0 : a2 = none → n2 = 0) (m0 : n0 ≤ maxLen) (m1 : n1 ≤ maxLen) (m2 : n2 ≤ maxLen)
    (rA : ∀ i, i < n0 → -9223372036854775808 ≤ fA i ∧ fA i ≤ 9223372036854775807) (rB : ∀ i, i < n1 → -9223372036854775808 ≤ fB i ∧ fB i ≤ 9223372036854775807) :
    Calls Try.prog 4 #[.slice a0 n0 c0, .slice a1 n1 c1, .slice a2 n2 c2] w fun e w' => e = .returned (.bool true) ∧ Kept (fun _ => False) w w' := by
  have Z14 := hid (zzb14_any a0 a1 a2 n0 c0 n1 c1 n2 c2 s w hS m0 m1 m2)
  have Z9a := hid (zzints_any a0 n0 c0 0 w (by omega) m0)
  have Z9b := hid (fun u hu => zzints_any a1 n1 c1 u w hu m1)
  have Z8 := hid (fun u hu => zzstrs_any a2 n2 c2 u s w hS hu m2)
  have hAh := hid hA
  have hBh := hid hB
  have hSh := hid hS
  have hS0h := hid hS0
  have rAh := hid rA
  have rBh := hid rB
  have mh := hid (And.intro m0 (And.intro m1 m2))
  clear hA hB hS hS0 rA rB m0 m1 m2
  go_enter Try.func4, Try.ntmps4
  go_wp2_with fail
  refine Z14.out.mono ?_
  rintro e w1 ⟨⟨r, rfl⟩, rfl⟩
  cases r with
  | false =>
    go_wp2
    go_ret
    exact ⟨rfl, Kept.refl _ _⟩
  | true =>
    go_wp2_with fail
    refine Z9a.out.mono ?_
    rintro e w2 ⟨r1, rfl, hr1, hq1, rfl⟩
    go_wp2_with fail
    refine (Z9b.out r1 hr1).mono ?_
    rintro e w2 ⟨r2, rfl, hr2, hq2, rfl⟩
    go_wp2_with fail
    refine (Z8.out r2 hr2).mono ?_
    rintro e w2 ⟨r3, rfl, hr3, hq3, rfl⟩
    by_cases hr : r3 > 1048576
    · have hr' : (1048576 : Int) < (r3 : Int) := by omega
      go_wp2
      go_ret
      exact ⟨rfl, Kept.refl _ _⟩
    · have hr' : ¬ (1048576 : Int) < (r3 : Int) := by omega
      have b0 : n0 ≤ 131072 := by omega
      have b1 : n1 ≤ 131072 := by omega
      have b2 : n2 ≤ 65536 := by omega
      clear hq1 hq2 hq3 hr1 hr2 hr3 Z14 Z9a Z9b Z8 hr
      go_upto_if 32 with fail
      obtain ⟨w, hw⟩ : ∃ x, x = w2 := ⟨_, rfl⟩
      subst hw
      go_cut [0] from 19 (fun v0 wc => ∃ (a : Option Addr) (c b : Nat), v0 = .slice a n0 c ∧ Hid (0 < n0 → a = some ⟨b, 0, none⟩ ∧ IRow wc b n0 fA) ∧ Hid (Kept (fun _ => False) w wc))
      case first =>
        cases a0 with
        | none =>
          have h0 := hAh.out.1 rfl
          go_wp2_with fail
          go_meet
          exact ⟨none, c0, 0, rfl, hid (fun h => by omega), hid (Kept.refl _ _)⟩
        | some ad =>
          have hmk := make22 n0 (by omega)
          obtain ⟨W2, hcp, hr, hK⟩ := copy22 (c := c0) hAh.out 3 rfl rfl
          have hrh := hid hr
          have hKh := hid hK
          clear hr hK
          go_wp2_with fail
          go_meet
          exact ⟨_, _, _, rfl, hid (fun _ => ⟨rfl, hrh.out⟩), hid hKh.out⟩
      case rest =>
        obtain ⟨aA, cA, bA, rfl, HA, K1⟩ := hcut
        obtain ⟨wA, hwA⟩ : ∃ x, x = wc := ⟨_, rfl⟩
        subst hwA
        clear hAh
        go_upto_if 41 with fail
        go_cut [1] from 19 (fun v0 wc => ∃ (a : Option Addr) (c b : Nat), v0 = .slice a n1 c ∧ Hid (0 < n1 → a = some ⟨b, 0, none⟩ ∧ IRow wc b n1 fB) ∧ Hid (Kept (fun _ => False) wA wc))
        case first =>
          cases a1 with
          | none =>
            have h0 := hBh.out.1 rfl
            go_wp2_with fail
            go_meet
            exact ⟨none, c1, 0, rfl, hid (fun h => by omega), hid (Kept.refl _ _)⟩
          | some ad =>
            have hmk := make22 n1 (by omega)
            obtain ⟨W2, hcp, hr, hK⟩ := copy22 (c := c1) (hBh.out.kept K1.out) 3 rfl rfl
            have hrh := hid hr
            have hKh := hid hK
            clear hr hK
            go_wp2_with fail
            go_meet
            exact ⟨_, _, _, rfl, hid (fun _ => ⟨rfl, hrh.out⟩), hid hKh.out⟩
        case rest =>
          obtain ⟨aB, cB, bB, rfl, HB, K2⟩ := hcut
          obtain ⟨wB, hwB⟩ : ∃ x, x = wc := ⟨_, rfl⟩
          subst hwB
          clear hBh
          go_upto_if 50 with fail
          go_cut [2] from 19 (fun v0 wc => ∃ (a : Option Addr) (c b : Nat), v0 = .slice a n2 c ∧ Hid (0 < n2 → a = some ⟨b, 0, none⟩ ∧ SRow wc b n2 s) ∧ Hid (Kept (fun _ => False) wB wc))
          case first =>
            cases a2 with
            | none =>
              have h0 := hS0h.out rfl
              go_wp2_with fail
              go_meet
              exact ⟨none, c2, 0, by rw [h0], hid (fun h => by omega), hid (Kept.refl _ _)⟩
            | some ad =>
              have hmk := make23 n2 (by omega)
              obtain ⟨W2, hcp, hr, hK⟩ := copy23 (c := c2) (hSh.out.kept (K1.out.trans K2.out)) 3 rfl rfl
              have hrh := hid hr
              have hKh := hid hK
              clear hr hK
              go_wp2_with fail
              go_meet
              exact ⟨_, _, _, rfl, hid (fun _ => ⟨rfl, hrh.out⟩), hid hKh.out⟩
          case rest =>
            obtain ⟨aH, cH, bH, rfl, HS, K3⟩ := hcut
            obtain ⟨wS, hwS⟩ : ∃ x, x = wc := ⟨_, rfl⟩
            subst hwS
            clear hSh hS0h
            have KS := hid ((K1.out.trans K2.out).trans K3.out)
            by_cases hk : n0 > 256
            · have hk' : (256 : Int) < (n0 : Int) := by omega
              go_wp2
              go_ret
              exact ⟨rfl, KS.out⟩
            have hk' : ¬ (256 : Int) < (n0 : Int) := by omega
            by_cases h1 : n1 = n0
            · by_cases h2 : n2 = n0
              · subst h1
                subst h2
                have hb1 : ((n2 : Int) != (n2 : Int)) = false := by simp
                go_upto_region 20 with fail
                have hkk : n2 ≤ 256 := by omega
                have GA := zzgrouped_any (w0 := wS) (k := n2) (ab := bA) (c := cA) (hb := bH) (ch := cH) (a := aA) (h := aH) (sup := fA) (s := s) hkk (fun h => (HA.out h).1) (fun h => ((HA.out h).2.kept (K2.out.trans K3.out) id)) rAh.out (fun h => (HS.out h).1) (fun h => (HS.out h).2)
                have GB := fun (w1 : World) (Kw : Kept (fun _ => False) wS w1) => zzgrouped_any (w0 := w1) (k := n2) (ab := bB) (c := cB) (hb := bH) (ch := cH) (a := aB) (h := aH) (sup := fB) (s := s) hkk (fun h => (HB.out h).1) (fun h => (((HB.out h).2.kept K3.out id).kept Kw id)) rBh.out (fun h => (HS.out h).1) (fun h => (HS.out h).2.kept Kw id)
                have HF := fun (w1 : World) (Kw : Kept (fun _ => False) wS w1) => half_any (w := w1) (hb := bH) (k := n2) (ch := cH) (h := aH) (s := s) (by omega) (fun h => (HS.out h).1) (fun h => (HS.out h).2.kept Kw id)
                by_cases hfl : (flowOf n2 (apS s)).1 < 2 * n2
                · have GA0 : Hid (Calls Try.prog 10 #[.slice aA n2 cA, .slice aH n2 cH] wS fun e w' => e = .returned (.slice none 0 0) ∧ Hid (Kept (fun _ => False) wS w')) := hid (GA.mono fun e w' h => by
                    rcases h.2 with h2 | h2
                    · exact ⟨h2.2, hid h.1⟩
                    · omega)
                  have GB0 : Hid (∀ w1, Kept (fun _ => False) wS w1 → Calls Try.prog 10 #[.slice aB n2 cB, .slice aH n2 cH] w1 fun e w' => e = .returned (.slice none 0 0) ∧ Hid (Kept (fun _ => False) w1 w')) := hid (fun w1 Kw => (GB w1 Kw).mono fun e w' h => by
                    rcases h.2 with h2 | h2
                    · exact ⟨h2.2, hid h.1⟩
                    · omega)
                  have HF0 : Hid (∀ w1, Kept (fun _ => False) wS w1 → Calls Try.prog 11 #[.slice aH n2 cH] w1 fun e w' => e = .returned (.bool false) ∧ ∃ m, w' = w1.drewN m) := hid (fun w1 Kw => (HF w1 Kw).mono fun e w' h => by
                    obtain ⟨r, m, h1, h2, h3⟩ := h
                    rw [half_short hfl h2] at h1
                    exact ⟨h1, m, h3⟩)
                  have heqn : ∀ W, (binOp .eql 27 (.slice none 0 0) (.slice none 0 0)).run Try.prog W = .ok (.bool true) W := fun W => Lib.run_eql_slice_nil W 27 22 none _ _ _ _ Try.underlying27
                  clear GA GB HF hfl
                  go_wp2_with fail
                  refine GA0.out.mono ?_
                  rintro e w1 ⟨rfl, KA⟩
                  go_wp2_with fail
                  refine (GB0.out w1 KA.out).mono ?_
                  rintro e w3 ⟨rfl, KB⟩
                  go_wp2_with fail
                  refine (HF0.out w3 (KA.out.trans KB.out)).mono ?_
                  rintro e w4 ⟨rfl, m, rfl⟩
                  go_wp2
                  go_ret
                  exact ⟨rfl, ((KS.out.trans KA.out).trans KB.out).drewN m⟩
                · have hful : 2 * n2 ≤ (flowOf n2 (apS s)).1 := by omega
                  have GA0 : Hid (Calls Try.prog 10 #[.slice aA n2 cA, .slice aH n2 cH] wS fun e w' => ∃ (X : Nat) (Rx : Nat → Nat), e = .returned (.slice (some ⟨X, 0, none⟩) n2 n2) ∧ Hid (Kept (fun _ => False) wS w') ∧ Hid (XM w' wS.heap.size X n2 n2 Rx (fun r j => (pairX n2 (apS s) r j : Int) * fA r))) := hid (GA.mono fun e w' h => by
                    rcases h.2 with h2 | ⟨_, X, Rx, h3, h4⟩
                    · omega
                    · exact ⟨X, Rx, h3, hid h.1, hid h4⟩)
                  have GB0 : Hid (∀ w1, Kept (fun _ => False) wS w1 → Calls Try.prog 10 #[.slice aB n2 cB, .slice aH n2 cH] w1 fun e w' => ∃ (X : Nat) (Rx : Nat → Nat), e = .returned (.slice (some ⟨X, 0, none⟩) n2 n2) ∧ Hid (Kept (fun _ => False) w1 w') ∧ Hid (XM w' w1.heap.size X n2 n2 Rx (fun r j => (pairX n2 (apS s) r j : Int) * fB r))) := hid (fun w1 Kw => (GB w1 Kw).mono fun e w' h => by
                    rcases h.2 with h2 | ⟨_, X, Rx, h3, h4⟩
                    · omega
                    · exact ⟨X, Rx, h3, hid h.1, hid h4⟩)
                  have HF0 : Hid (∀ w1, Kept (fun _ => False) wS w1 → Calls Try.prog 11 #[.slice aH n2 cH] w1 fun e w' => e = .returned (.bool true) ∧ ∃ m, w' = w1.drewN m) := hid (fun w1 Kw => (HF w1 Kw).mono fun e w' h => by
                    obtain ⟨r, m, h1, h2, h3⟩ := h
                    rw [half_full hful h2] at h1
                    exact ⟨h1, m, h3⟩)
                  have PF := hid (pairs_full hful)
                  clear GA GB HF hfl hful
                  go_wp2_with fail
                  refine GA0.out.mono ?_
                  rintro e w1 ⟨XA, RA, rfl, KA, hXA⟩
                  go_wp2_with fail
                  refine (GB0.out w1 KA.out).mono ?_
                  rintro e w3 ⟨XB, RB, rfl, KB, hXB⟩
                  go_wp2_with fail
                  refine (HF0.out w3 (KA.out.trans KB.out)).mono ?_
                  rintro e w4 ⟨rfl, m, rfl⟩
                  have XA4 := hid ((hXA.out.kept KB.out id (fun r _ => id)).kept ((Kept.refl (fun _ => False) w3).drewN m) id (fun r _ => id))
                  have XB4 := hid (hXB.out.kept ((Kept.refl (fun _ => False) w3).drewN m) id (fun r _ => id))
                  have KL := hid (((KS.out.trans KA.out).trans KB.out).drewN m)
                  have KL2 := hid ((KA.out.trans KB.out).drewN m)
                  have RA4 : Hid (0 < n2 → IRow (w3.drewN m) bA n2 fA) := hid (fun h => ((HA.out h).2.kept (K2.out.trans K3.out) id).kept KL2.out id)
                  have RB4 : Hid (0 < n2 → IRow (w3.drewN m) bB n2 fB) := hid (fun h => ((HB.out h).2.kept K3.out id).kept KL2.out id)
                  generalize w3.drewN m = wL at XA4 XB4 KL RA4 RB4 ⊢
                  have SQA := hid (square_any (by omega) XA4.out)
                  have SQB := hid (square_any (by omega) XB4.out)
                  clear hXA hXB KA KB KL2 GA0 GB0 HF0
                  go_wp2_with fail
                  refine SQA.out.mono ?_
                  rintro e w5 ⟨rfl, hw5⟩
                  subst hw5
                  go_wp2_with fail
                  refine SQB.out.mono ?_
                  rintro e w6 ⟨rfl, hw6⟩
                  subst hw6
                  obtain ⟨wL, hwL⟩ : ∃ x, x = w6 := ⟨_, rfl⟩
                  subst hwL
                  go_wp2_with fail
                  go_loopg [13] n2 (fun n v13 wr => ∃ i : Nat, v13 = .int .i64 i ∧ Hid (n + i = n2) ∧ wr = wL)
                  case atStart => exact ⟨0, rfl, hid (by omega), rfl⟩
                  case round =>
                    obtain ⟨i, rfl, hn, rfl⟩ := hrel
                    obtain ⟨gk0, hgk0⟩ : ∃ x, x = gk := ⟨_, rfl⟩
                    subst hgk0
                    by_cases hi : i < n2
                    · have hi' : (i : Int) < (n2 : Int) := by omega
                      have hwi : IntKind.i64.wrap ((i : Int) + 1) = ((i + 1 : Nat) : Int) := by rw [IntKind.wrap_i64]; omega
                      have haA := (HA.out (by omega)).1
                      have haB := (HB.out (by omega)).1
                      subst haA
                      subst haB
                      have csA := (RA4.out (by omega)).cell hi
                      have csB := (RB4.out (by omega)).cell hi
                      have cXA := XA4.out.tbl.cell hi
                      have cXB := XB4.out.tbl.cell hi
                      obtain ⟨wL, hwL⟩ : ∃ x, x = wr := ⟨_, rfl⟩
                      subst hwL
                      by_cases zA : fA i = 0
                      · by_cases zB : fB i = 0
                        · skip
                          rw [zA] at csA
                          have eA := hid zA
                          clear zA
                          rw [zB] at csB
                          have eB := hid zB
                          clear zB
                          go_wp2_with fail
                          go_loopg [14, 15, 16] n2 (fun n v14 v15 v16 wr => ∃ j : Nat, v16 = .int .i64 j ∧ v14 = .int .i64 0 ∧ v15 = .int .i64 0 ∧ Hid (n + j = n2) ∧ wr = wL)
                          case atStart => exact ⟨0, rfl, rfl, rfl, hid (by omega), rfl⟩
                          case round =>
                            obtain ⟨j, rfl, rfl, rfl, hnj, rfl⟩ := hrel
                            by_cases hj : j < n2
                            · have hj' : (j : Int) < (n2 : Int) := by omega
                              have hwj : IntKind.i64.wrap ((j : Int) + 1) = ((j + 1 : Nat) : Int) := by rw [IntKind.wrap_i64]; omega
                              have ca := (XA4.out.row i hi).cell hj
                              have cb := (XB4.out.row i hi).cell hj
                              have hp := (PF.out.1 i j hi hj).1
                              obtain ⟨q, hq⟩ : ∃ q, q = sumTo j (fun x => pairX n2 (apS s) i x) := ⟨_, rfl⟩
                              have hqs : Hid (sumTo (j + 1) (fun x => pairX n2 (apS s) i x) = q + pairX n2 (apS s) i j) := hid (by rw [hq]; rfl)
                              have hq1 : q ≤ 1 := by
                                have h1 := PF.out.2.1 i hi
                                have h2 : ∀ d, sumTo j (fun x => pairX n2 (apS s) i x) ≤ sumTo (j + d) (fun x => pairX n2 (apS s) i x) := by
                                  intro d; induction d with
                                  | zero => exact Nat.le_refl _
                                  | succ d ih => exact Nat.le_trans ih (Nat.le_add_right _ _)
                                have h3 := h2 (n2 - j)
                                rw [show j + (n2 - j) = n2 by omega, h1] at h3
                                omega
                              have hwq : IntKind.i64.wrap ((q : Int) + 1) = ((q + 1 : Nat) : Int) := by rw [IntKind.wrap_i64]; omega
                              clear hq
                              by_cases h0 : pairX n2 (apS s) i j = 0
                              · rw [show ((pairX n2 (apS s) i j : Nat) : Int) * fA i = 0 by rw [h0]; simp] at ca
                                rw [show ((pairX n2 (apS s) i j : Nat) : Int) * fB i = 0 by rw [h0]; simp] at cb
                                have h0h := hid h0
                                clear h0 hp
                                go_wp2
                                go_roundg (gk - 1)
                                case measure => have := hnj.out; omega
                                case rel => exact ⟨j + 1, rfl, rfl, rfl, hid (by have := hnj.out; omega), rfl⟩
                              · have h1 : pairX n2 (apS s) i j = 1 := by omega
                                rw [show ((pairX n2 (apS s) i j : Nat) : Int) * fA i = 0 by rw [h1, eA.out]; simp] at ca
                                rw [show ((pairX n2 (apS s) i j : Nat) : Int) * fB i = 0 by rw [h1, eB.out]; simp] at cb
                                have h0h := hid h1
                                clear h0 h1 hp
                                go_wp2
                                go_roundg (gk - 1)
                                case measure => have := hnj.out; omega
                                case rel => exact ⟨j + 1, rfl, rfl, rfl, hid (by have := hnj.out; omega), rfl⟩
                            · have hj' : ¬ (j : Int) < (n2 : Int) := by omega
                              have hjk : n2 = j := by have := hnj.out; omega
                              subst hjk
                              go_wp2
                              go_roundg (gk0 - 1)
                              case measure => have := hn.out; omega
                              case rel => exact ⟨i + 1, rfl, hid (by have := hn.out; omega), rfl⟩
                        · skip
                          rw [zA] at csA
                          have eA := hid zA
                          clear zA
                          obtain ⟨xB, hxB⟩ : ∃ x, x = fB i := ⟨_, rfl⟩
                          rw [← hxB] at csB zB
                          have hbB : (xB != 0) = true := by simp; exact zB
                          have eB := hid hxB.symm
                          clear hxB zB
                          go_wp2_with fail
                          go_loopg [14, 15, 16] n2 (fun n v14 v15 v16 wr => ∃ j : Nat, v16 = .int .i64 j ∧ v14 = .int .i64 0 ∧ v15 = .int .i64 (sumTo j (fun x => pairX n2 (apS s) i x) : Nat) ∧ Hid (n + j = n2) ∧ wr = wL)
                          case atStart => exact ⟨0, rfl, rfl, rfl, hid (by omega), rfl⟩
                          case round =>
                            obtain ⟨j, rfl, rfl, rfl, hnj, rfl⟩ := hrel
                            by_cases hj : j < n2
                            · have hj' : (j : Int) < (n2 : Int) := by omega
                              have hwj : IntKind.i64.wrap ((j : Int) + 1) = ((j + 1 : Nat) : Int) := by rw [IntKind.wrap_i64]; omega
                              have ca := (XA4.out.row i hi).cell hj
                              have cb := (XB4.out.row i hi).cell hj
                              have hp := (PF.out.1 i j hi hj).1
                              obtain ⟨q, hq⟩ : ∃ q, q = sumTo j (fun x => pairX n2 (apS s) i x) := ⟨_, rfl⟩
                              have hqs : Hid (sumTo (j + 1) (fun x => pairX n2 (apS s) i x) = q + pairX n2 (apS s) i j) := hid (by rw [hq]; rfl)
                              have hq1 : q ≤ 1 := by
                                have h1 := PF.out.2.1 i hi
                                have h2 : ∀ d, sumTo j (fun x => pairX n2 (apS s) i x) ≤ sumTo (j + d) (fun x => pairX n2 (apS s) i x) := by
                                  intro d; induction d with
                                  | zero => exact Nat.le_refl _
                                  | succ d ih => exact Nat.le_trans ih (Nat.le_add_right _ _)
                                have h3 := h2 (n2 - j)
                                rw [show j + (n2 - j) = n2 by omega, h1] at h3
                                omega
                              rw [← hq]
                              have hwq : IntKind.i64.wrap ((q : Int) + 1) = ((q + 1 : Nat) : Int) := by rw [IntKind.wrap_i64]; omega
                              clear hq
                              by_cases h0 : pairX n2 (apS s) i j = 0
                              · rw [show ((pairX n2 (apS s) i j : Nat) : Int) * fA i = 0 by rw [h0]; simp] at ca
                                rw [show ((pairX n2 (apS s) i j : Nat) : Int) * fB i = 0 by rw [h0]; simp] at cb
                                have h0h := hid h0
                                clear h0 hp
                                go_wp2
                                go_roundg (gk - 1)
                                case measure => have := hnj.out; omega
                                case rel => exact ⟨j + 1, rfl, rfl, by rw [hqs.out, h0h.out]; rfl, hid (by have := hnj.out; omega), rfl⟩
                              · have h1 : pairX n2 (apS s) i j = 1 := by omega
                                rw [show ((pairX n2 (apS s) i j : Nat) : Int) * fA i = 0 by rw [h1, eA.out]; simp] at ca
                                rw [show ((pairX n2 (apS s) i j : Nat) : Int) * fB i = xB by rw [h1, eB.out]; simp] at cb
                                have h0h := hid h1
                                clear h0 h1 hp
                                go_wp2
                                go_roundg (gk - 1)
                                case measure => have := hnj.out; omega
                                case rel => exact ⟨j + 1, rfl, rfl, by rw [hqs.out, h0h.out]; rfl, hid (by have := hnj.out; omega), rfl⟩
                            · have hj' : ¬ (j : Int) < (n2 : Int) := by omega
                              have hjk : n2 = j := by have := hnj.out; omega
                              subst hjk
                              rw [PF.out.2.1 i hi]
                              go_wp2
                              go_roundg (gk0 - 1)
                              case measure => have := hn.out; omega
                              case rel => exact ⟨i + 1, rfl, hid (by have := hn.out; omega), rfl⟩
                      · by_cases zB : fB i = 0
                        · skip
                          obtain ⟨xA, hxA⟩ : ∃ x, x = fA i := ⟨_, rfl⟩
                          rw [← hxA] at csA zA
                          have hbA : (xA != 0) = true := by simp; exact zA
                          have eA := hid hxA.symm
                          clear hxA zA
                          rw [zB] at csB
                          have eB := hid zB
                          clear zB
                          go_wp2_with fail
                          go_loopg [14, 15, 16] n2 (fun n v14 v15 v16 wr => ∃ j : Nat, v16 = .int .i64 j ∧ v14 = .int .i64 (sumTo j (fun x => pairX n2 (apS s) i x) : Nat) ∧ v15 = .int .i64 0 ∧ Hid (n + j = n2) ∧ wr = wL)
                          case atStart => exact ⟨0, rfl, rfl, rfl, hid (by omega), rfl⟩
                          case round =>
                            obtain ⟨j, rfl, rfl, rfl, hnj, rfl⟩ := hrel
                            by_cases hj : j < n2
                            · have hj' : (j : Int) < (n2 : Int) := by omega
                              have hwj : IntKind.i64.wrap ((j : Int) + 1) = ((j + 1 : Nat) : Int) := by rw [IntKind.wrap_i64]; omega
                              have ca := (XA4.out.row i hi).cell hj
                              have cb := (XB4.out.row i hi).cell hj
                              have hp := (PF.out.1 i j hi hj).1
                              obtain ⟨q, hq⟩ : ∃ q, q = sumTo j (fun x => pairX n2 (apS s) i x) := ⟨_, rfl⟩
                              have hqs : Hid (sumTo (j + 1) (fun x => pairX n2 (apS s) i x) = q + pairX n2 (apS s) i j) := hid (by rw [hq]; rfl)
                              have hq1 : q ≤ 1 := by
                                have h1 := PF.out.2.1 i hi
                                have h2 : ∀ d, sumTo j (fun x => pairX n2 (apS s) i x) ≤ sumTo (j + d) (fun x => pairX n2 (apS s) i x) := by
                                  intro d; induction d with
                                  | zero => exact Nat.le_refl _
                                  | succ d ih => exact Nat.le_trans ih (Nat.le_add_right _ _)
                                have h3 := h2 (n2 - j)
                                rw [show j + (n2 - j) = n2 by omega, h1] at h3
                                omega
                              rw [← hq]
                              have hwq : IntKind.i64.wrap ((q : Int) + 1) = ((q + 1 : Nat) : Int) := by rw [IntKind.wrap_i64]; omega
                              clear hq
                              by_cases h0 : pairX n2 (apS s) i j = 0
                              · rw [show ((pairX n2 (apS s) i j : Nat) : Int) * fA i = 0 by rw [h0]; simp] at ca
                                rw [show ((pairX n2 (apS s) i j : Nat) : Int) * fB i = 0 by rw [h0]; simp] at cb
                                have h0h := hid h0
                                clear h0 hp
                                go_wp2
                                go_roundg (gk - 1)
                                case measure => have := hnj.out; omega
                                case rel => exact ⟨j + 1, rfl, by rw [hqs.out, h0h.out]; rfl, rfl, hid (by have := hnj.out; omega), rfl⟩
                              · have h1 : pairX n2 (apS s) i j = 1 := by omega
                                rw [show ((pairX n2 (apS s) i j : Nat) : Int) * fA i = xA by rw [h1, eA.out]; simp] at ca
                                rw [show ((pairX n2 (apS s) i j : Nat) : Int) * fB i = 0 by rw [h1, eB.out]; simp] at cb
                                have h0h := hid h1
                                clear h0 h1 hp
                                go_wp2
                                go_roundg (gk - 1)
                                case measure => have := hnj.out; omega
                                case rel => exact ⟨j + 1, rfl, by rw [hqs.out, h0h.out]; rfl, rfl, hid (by have := hnj.out; omega), rfl⟩
                            · have hj' : ¬ (j : Int) < (n2 : Int) := by omega
                              have hjk : n2 = j := by have := hnj.out; omega
                              subst hjk
                              rw [PF.out.2.1 i hi]
                              go_wp2
                              go_roundg (gk0 - 1)
                              case measure => have := hn.out; omega
                              case rel => exact ⟨i + 1, rfl, hid (by have := hn.out; omega), rfl⟩
                        · skip
                          obtain ⟨xA, hxA⟩ : ∃ x, x = fA i := ⟨_, rfl⟩
                          rw [← hxA] at csA zA
                          have hbA : (xA != 0) = true := by simp; exact zA
                          have eA := hid hxA.symm
                          clear hxA zA
                          obtain ⟨xB, hxB⟩ : ∃ x, x = fB i := ⟨_, rfl⟩
                          rw [← hxB] at csB zB
                          have hbB : (xB != 0) = true := by simp; exact zB
                          have eB := hid hxB.symm
                          clear hxB zB
                          go_wp2_with fail
                          go_loopg [14, 15, 16] n2 (fun n v14 v15 v16 wr => ∃ j : Nat, v16 = .int .i64 j ∧ v14 = .int .i64 (sumTo j (fun x => pairX n2 (apS s) i x) : Nat) ∧ v15 = .int .i64 (sumTo j (fun x => pairX n2 (apS s) i x) : Nat) ∧ Hid (n + j = n2) ∧ wr = wL)
                          case atStart => exact ⟨0, rfl, rfl, rfl, hid (by omega), rfl⟩
                          case round =>
                            obtain ⟨j, rfl, rfl, rfl, hnj, rfl⟩ := hrel
                            by_cases hj : j < n2
                            · have hj' : (j : Int) < (n2 : Int) := by omega
                              have hwj : IntKind.i64.wrap ((j : Int) + 1) = ((j + 1 : Nat) : Int) := by rw [IntKind.wrap_i64]; omega
                              have ca := (XA4.out.row i hi).cell hj
                              have cb := (XB4.out.row i hi).cell hj
                              have hp := (PF.out.1 i j hi hj).1
                              obtain ⟨q, hq⟩ : ∃ q, q = sumTo j (fun x => pairX n2 (apS s) i x) := ⟨_, rfl⟩
                              have hqs : Hid (sumTo (j + 1) (fun x => pairX n2 (apS s) i x) = q + pairX n2 (apS s) i j) := hid (by rw [hq]; rfl)
                              have hq1 : q ≤ 1 := by
                                have h1 := PF.out.2.1 i hi
                                have h2 : ∀ d, sumTo j (fun x => pairX n2 (apS s) i x) ≤ sumTo (j + d) (fun x => pairX n2 (apS s) i x) := by
                                  intro d; induction d with
                                  | zero => exact Nat.le_refl _
                                  | succ d ih => exact Nat.le_trans ih (Nat.le_add_right _ _)
                                have h3 := h2 (n2 - j)
                                rw [show j + (n2 - j) = n2 by omega, h1] at h3
                                omega
                              rw [← hq]
                              have hwq : IntKind.i64.wrap ((q : Int) + 1) = ((q + 1 : Nat) : Int) := by rw [IntKind.wrap_i64]; omega
                              clear hq
                              by_cases h0 : pairX n2 (apS s) i j = 0
                              · rw [show ((pairX n2 (apS s) i j : Nat) : Int) * fA i = 0 by rw [h0]; simp] at ca
                                rw [show ((pairX n2 (apS s) i j : Nat) : Int) * fB i = 0 by rw [h0]; simp] at cb
                                have h0h := hid h0
                                clear h0 hp
                                go_wp2
                                go_roundg (gk - 1)
                                case measure => have := hnj.out; omega
                                case rel => exact ⟨j + 1, rfl, by rw [hqs.out, h0h.out]; rfl, by rw [hqs.out, h0h.out]; rfl, hid (by have := hnj.out; omega), rfl⟩
                              · have h1 : pairX n2 (apS s) i j = 1 := by omega
                                rw [show ((pairX n2 (apS s) i j : Nat) : Int) * fA i = xA by rw [h1, eA.out]; simp] at ca
                                rw [show ((pairX n2 (apS s) i j : Nat) : Int) * fB i = xB by rw [h1, eB.out]; simp] at cb
                                have h0h := hid h1
                                clear h0 h1 hp
                                go_wp2
                                go_roundg (gk - 1)
                                case measure => have := hnj.out; omega
                                case rel => exact ⟨j + 1, rfl, by rw [hqs.out, h0h.out]; rfl, by rw [hqs.out, h0h.out]; rfl, hid (by have := hnj.out; omega), rfl⟩
                            · have hj' : ¬ (j : Int) < (n2 : Int) := by omega
                              have hjk : n2 = j := by have := hnj.out; omega
                              subst hjk
                              rw [PF.out.2.1 i hi]
                              go_wp2
                              go_roundg (gk0 - 1)
                              case measure => have := hn.out; omega
                              case rel => exact ⟨i + 1, rfl, hid (by have := hn.out; omega), rfl⟩
                    · have hi' : ¬ (i : Int) < (n2 : Int) := by omega
                      go_wp2
                      go_ret
                      exact ⟨rfl, KL.out⟩
              · have hb1 : ((n1 : Int) != (n0 : Int)) = false := by simp [h1]
                have hb2 : ((n2 : Int) != (n0 : Int)) = true := by simp; omega
                clear h1 h2
                go_wp2
                go_ret
                exact ⟨rfl, KS.out⟩
            · have hb1 : ((n1 : Int) != (n0 : Int)) = true := by simp; omega
              clear h1
              go_wp2
              go_ret
              exact ⟨rfl, KS.out⟩
end Go.Proofs.Qxb6613837a
