import Derived.Test.Qxb6613837aW22
namespace Go.Proofs.Qxb6613837a
open Go.RowKit
set_option linter.unusedVariables false
set_option linter.unusedSimpArgs false

set_option maxRecDepth 100000 in
set_option maxHeartbeats 4000000 in
theorem pairs_any (a0 a1 : Option Addr) (n0 c0 n1 c1 : Nat) (f : Nat → Int) (s : Nat → ByteArray) (w : World) (hA : Ints w a0 n0 f) (hS : Strs w a1 n1 s) (hS0 : a1 = none → n1 = 0) (m0 : n0 ≤ maxLen) (m1 : n1 ≤ maxLen)
    (rA : ∀ i, i < n0 → -9223372036854775808 ≤ f i ∧ f i ≤ 9223372036854775807) :
    Calls Try.prog 3 #[.slice a0 n0 c0, .slice a1 n1 c1] w fun e w' => e = .returned (.bool true) ∧ Kept (fun _ => False) w w' := by
  have Z7 := hid (zzb7_any a0 a1 n0 c0 n1 c1 s w hS m0 m1)
  have Z9 := hid (zzints_any a0 n0 c0 0 w (by omega) m0)
  have Z8 := hid (fun u hu => zzstrs_any a1 n1 c1 u s w hS hu m1)
  have hAh := hid hA
  have hSh := hid hS
  have hS0h := hid hS0
  have rAh := hid rA
  clear hA hS hS0 rA m0 m1
  go_enter Try.func3, Try.ntmps3
  go_wp2_with fail
  refine Z7.out.mono ?_
  rintro e w1 ⟨⟨r, rfl⟩, rfl⟩
  cases r with
  | false =>
    go_wp2
    go_ret
    exact ⟨rfl, Kept.refl _ _⟩
  | true =>
    go_wp2_with fail
    refine Z9.out.mono ?_
    rintro e w2 ⟨r1, rfl, hr1, hq1, rfl⟩
    go_wp2_with fail
    refine (Z8.out r1 hr1).mono ?_
    rintro e w2 ⟨r3, rfl, hr3, hq3, rfl⟩
    by_cases hr : r3 > 1048576
    · have hr' : (1048576 : Int) < (r3 : Int) := by omega
      go_wp2
      go_ret
      exact ⟨rfl, Kept.refl _ _⟩
    · have hr' : ¬ (1048576 : Int) < (r3 : Int) := by omega
      have b0 : n0 ≤ 131072 := by omega
      have b1 : n1 ≤ 65536 := by omega
      clear hq1 hq3 hr1 hr3 Z7 Z9 Z8 hr
      go_upto_if 28 with fail
      obtain ⟨w, hw⟩ : ∃ x, x = w2 := ⟨_, rfl⟩
      subst hw
      go_cut [0] from 18 (fun v0 wc => ∃ (a : Option Addr) (c b : Nat), v0 = .slice a n0 c ∧ Hid (0 < n0 → a = some ⟨b, 0, none⟩ ∧ IRow wc b n0 f) ∧ Hid (Kept (fun _ => False) w wc))
      case first =>
        cases a0 with
        | none =>
          have h0 := hAh.out.1 rfl
          go_wp2_with fail
          go_meet
          exact ⟨none, c0, 0, by first | rfl | rw [h0], hid (fun h => by omega), hid (Kept.refl _ _)⟩
        | some ad =>
          have hmk := make22 n0 (by omega)
          obtain ⟨W2, hcp, hr, hK⟩ := copy22 (c := c0) hAh.out 3 rfl rfl
          have hrh := hid hr
          have hKh := hid hK
          clear hr hK
          go_wp2_with fail
          go_meet
          exact ⟨_, _, _, rfl, hid (fun _ => ⟨rfl, hrh.out⟩), hid hKh.out⟩
      case rest =>
        obtain ⟨aA, cA, bA, rfl, HA, K1⟩ := hcut
        obtain ⟨wA, hwA⟩ : ∃ x, x = wc := ⟨_, rfl⟩
        subst hwA
        clear hAh
        go_upto_if 37 with fail
        go_cut [1] from 18 (fun v0 wc => ∃ (a : Option Addr) (c b : Nat), v0 = .slice a n1 c ∧ Hid (0 < n1 → a = some ⟨b, 0, none⟩ ∧ SRow wc b n1 s) ∧ Hid (Kept (fun _ => False) wA wc))
        case first =>
          cases a1 with
          | none =>
            have h0 := hS0h.out rfl
            go_wp2_with fail
            go_meet
            exact ⟨none, c1, 0, by first | rfl | rw [h0], hid (fun h => by omega), hid (Kept.refl _ _)⟩
          | some ad =>
            have hmk := make23 n1 (by omega)
            obtain ⟨W2, hcp, hr, hK⟩ := copy23 (c := c1) (hSh.out.kept K1.out) 3 rfl rfl
            have hrh := hid hr
            have hKh := hid hK
            clear hr hK
            go_wp2_with fail
            go_meet
            exact ⟨_, _, _, rfl, hid (fun _ => ⟨rfl, hrh.out⟩), hid hKh.out⟩
        case rest =>
          obtain ⟨aH, cH, bH, rfl, HS, K3⟩ := hcut
          obtain ⟨wS, hwS⟩ : ∃ x, x = wc := ⟨_, rfl⟩
          subst hwS
          clear hSh hS0h
          have KS := hid (K1.out.trans K3.out)
          by_cases hk : n0 > 256
          · have hk' : (256 : Int) < (n0 : Int) := by omega
            go_wp2
            go_ret
            exact ⟨rfl, KS.out⟩
          have hk' : ¬ (256 : Int) < (n0 : Int) := by omega
          by_cases h1 : n1 = n0
          · subst h1
            have hb1 : ((n1 : Int) != (n1 : Int)) = false := by simp
            go_upto_region 16 with fail
            have hkk : n1 ≤ 256 := by omega
            have GA := zzgrouped_any (w0 := wS) (k := n1) (ab := bA) (c := cA) (hb := bH) (ch := cH) (a := aA) (h := aH) (sup := f) (s := s) hkk (fun h => (HA.out h).1) (fun h => ((HA.out h).2.kept K3.out id)) rAh.out (fun h => (HS.out h).1) (fun h => (HS.out h).2)
            have HF := fun (w1 : World) (Kw : Kept (fun _ => False) wS w1) => half_any (w := w1) (hb := bH) (k := n1) (ch := cH) (h := aH) (s := s) (by omega) (fun h => (HS.out h).1) (fun h => (HS.out h).2.kept Kw id)
            by_cases hfl : (flowOf n1 (apS s)).1 < 2 * n1
            · have GA0 : Hid (Calls Try.prog 10 #[.slice aA n1 cA, .slice aH n1 cH] wS fun e w' => e = .returned (.slice none 0 0) ∧ Hid (Kept (fun _ => False) wS w')) := hid (GA.mono fun e w' h => by
                rcases h.2 with h2 | h2
                · exact ⟨h2.2, hid h.1⟩
                · omega)
              have HF0 : Hid (∀ w1, Kept (fun _ => False) wS w1 → Calls Try.prog 11 #[.slice aH n1 cH] w1 fun e w' => e = .returned (.bool false) ∧ ∃ m, w' = w1.drewN m) := hid (fun w1 Kw => (HF w1 Kw).mono fun e w' h => by
                obtain ⟨r, m, h1, h2, h3⟩ := h
                rw [half_short hfl h2] at h1
                exact ⟨h1, m, h3⟩)
              have heqn : ∀ W, (binOp .eql 27 (.slice none 0 0) (.slice none 0 0)).run Try.prog W = .ok (.bool true) W := fun W => Lib.run_eql_slice_nil W 27 22 none _ _ _ _ Try.underlying27
              clear GA HF hfl
              go_wp2_with fail
              refine GA0.out.mono ?_
              rintro e w1 ⟨rfl, KA⟩
              go_wp2_with fail
              refine (HF0.out w1 KA.out).mono ?_
              rintro e w4 ⟨rfl, m, rfl⟩
              go_wp2
              go_ret
              exact ⟨rfl, (KS.out.trans KA.out).drewN m⟩
            · have hful : 2 * n1 ≤ (flowOf n1 (apS s)).1 := by omega
              have GA0 : Hid (Calls Try.prog 10 #[.slice aA n1 cA, .slice aH n1 cH] wS fun e w' => ∃ (X : Nat) (Rx : Nat → Nat), e = .returned (.slice (some ⟨X, 0, none⟩) n1 n1) ∧ Hid (Kept (fun _ => False) wS w') ∧ Hid (XM w' wS.heap.size X n1 n1 Rx (fun r j => (pairX n1 (apS s) r j : Int) * f r))) := hid (GA.mono fun e w' h => by
                rcases h.2 with h2 | ⟨_, X, Rx, h3, h4⟩
                · omega
                · exact ⟨X, Rx, h3, hid h.1, hid h4⟩)
              have HF0 : Hid (∀ w1, Kept (fun _ => False) wS w1 → Calls Try.prog 11 #[.slice aH n1 cH] w1 fun e w' => e = .returned (.bool true) ∧ ∃ m, w' = w1.drewN m) := hid (fun w1 Kw => (HF w1 Kw).mono fun e w' h => by
                obtain ⟨r, m, h1, h2, h3⟩ := h
                rw [half_full hful h2] at h1
                exact ⟨h1, m, h3⟩)
              have PF := hid (pairs_full hful)
              have hfulh := hid hful
              clear GA HF hfl hful
              go_wp2_with fail
              refine GA0.out.mono ?_
              rintro e w1 ⟨XA, RA, rfl, KA, hXA⟩
              go_wp2_with fail
              refine (HF0.out w1 KA.out).mono ?_
              rintro e w4 ⟨rfl, m, rfl⟩
              have XA4 := hid (hXA.out.kept ((Kept.refl (fun _ => False) w1).drewN m) id (fun r _ => id))
              have KL := hid ((KS.out.trans KA.out).drewN m)
              have KL2 := hid (KA.out.drewN m)
              have RA4 : Hid (0 < n1 → IRow (w1.drewN m) bA n1 f) := hid (fun h => ((HA.out h).2.kept K3.out id).kept KL2.out id)
              have RS4 : Hid (0 < n1 → SRow (w1.drewN m) bH n1 s) := hid (fun h => (HS.out h).2.kept KL2.out id)
              generalize w1.drewN m = wL at XA4 KL RA4 RS4 ⊢
              have SQA := hid (square_any (by omega) XA4.out)
              clear hXA KA KL2 GA0 HF0
              go_wp2_with fail
              refine SQA.out.mono ?_
              rintro e w5 ⟨rfl, hw5⟩
              subst hw5
              obtain ⟨wL, hwL⟩ : ∃ x, x = w5 := ⟨_, rfl⟩
              subst hwL
              have hmk := make31 n1 (by omega)
              obtain ⟨TB, hTB⟩ : ∃ x, x = wL.heap.size := ⟨_, rfl⟩
              go_wp2_with fail
              rw [← hTB]
              have hTBh := hid hTB
              clear hTB
              go_loopg [10, 11] n1 (fun n v10 v11 wr => ∃ i : Nat, v11 = .int .i64 i ∧ v10 = .int .i64 (zc f i : Nat) ∧ Hid (n + i = n1) ∧ Hid (Kept (fun _ => False) wL wr) ∧ Hid (BRow wr TB n1 (tkn f (pairX n1 (apS s)) i)))
              case atStart => exact ⟨0, rfl, rfl, hid (by omega), hid ((Kept.refl _ wL).alloc _), hid ((BRow.made wL n1 TB hTBh.out).congr (fun _ _ => rfl))⟩
              case round =>
                obtain ⟨i, rfl, rfl, hn, KW, TW⟩ := hrel
                obtain ⟨gk0, hgk0⟩ : ∃ x, x = gk := ⟨_, rfl⟩
                subst hgk0
                obtain ⟨wi, hwi⟩ : ∃ x, x = wr := ⟨_, rfl⟩
                subst hwi
                by_cases hi : i < n1
                · have hi' : (i : Int) < (n1 : Int) := by omega
                  have hwi : IntKind.i64.wrap ((i : Int) + 1) = ((i + 1 : Nat) : Int) := by rw [IntKind.wrap_i64]; omega
                  have haA := (HA.out (by omega)).1
                  have haH := (HS.out (by omega)).1
                  subst haA
                  subst haH
                  have csA := ((RA4.out (by omega)).kept KW.out id).cell hi
                  have cXA := (XA4.out.kept KW.out id (fun _ _ => id)).tbl.cell hi
                  have XI := hid (XA4.out.kept KW.out id (fun _ _ => id))
                  have hz := zc_le f i
                  obtain ⟨zn, hzn⟩ : ∃ x, x = zc f i := ⟨_, rfl⟩
                  rw [← hzn] at hz ⊢
                  have hznh := hid hzn
                  clear hzn
                  by_cases zA : f i = 0
                  · rw [zA] at csA
                    have eA := hid zA
                    clear zA
                    have hwz : IntKind.i64.wrap ((zn : Int) + 1) = ((zn + 1 : Nat) : Int) := by rw [IntKind.wrap_i64]; omega
                    go_wp2_with fail
                    go_loopg [12, 13] n1 (fun n v12 v13 wr => ∃ j : Nat, v13 = .int .i64 j ∧ v12 = .int .i64 (-1) ∧ Hid (n + j = n1) ∧ wr = wi)
                    case atStart => exact ⟨0, rfl, rfl, hid (by omega), rfl⟩
                    case round =>
                      obtain ⟨j, rfl, rfl, hnj, rfl⟩ := hrel
                      by_cases hj : j < n1
                      · have hj' : (j : Int) < (n1 : Int) := by omega
                        have hwj : IntKind.i64.wrap ((j : Int) + 1) = ((j + 1 : Nat) : Int) := by rw [IntKind.wrap_i64]; omega
                        have ca := (XI.out.row i hi).cell hj
                        rw [show ((pairX n1 (apS s) i j : Nat) : Int) * f i = 0 by rw [eA.out]; simp] at ca
                        go_wp2
                        go_roundg (gk - 1)
                        case measure => have := hnj.out; omega
                        case rel => exact ⟨j + 1, rfl, rfl, hid (by have := hnj.out; omega), rfl⟩
                      · have hj' : ¬ (j : Int) < (n1 : Int) := by omega
                        go_wp2
                        go_roundg (gk0 - 1)
                        case measure => have := hn.out; omega
                        case rel =>
                          refine ⟨i + 1, rfl, ?_, hid (by have := hn.out; omega), hid KW.out, hid (by rw [tkn_zero eA.out]; exact TW.out)⟩
                          have : zc f (i + 1) = zn + 1 := by unfold zc; rw [sumTo, if_pos (by simp [eA.out]), hznh.out]; rfl
                          rw [this]; rfl
                  · obtain ⟨p, hp, hp1, hpo⟩ := row_place (PF.out.2.1 i hi)
                    have hpoh := hid hpo
                    have hp1h := hid hp1
                    clear hpo hp1
                    have eAh := hid zA
                    obtain ⟨xA, hxA⟩ : ∃ x, x = f i := ⟨_, rfl⟩
                    rw [← hxA] at csA zA
                    have hbA : (xA != 0) = true := by simp; exact zA
                    have hbA2 : (xA == 0) = false := by simp; exact zA
                    have eA := hid hxA.symm
                    clear hxA zA
                    go_wp2_with fail
                    go_loopg [12, 13] n1 (fun n v12 v13 wr => ∃ j : Nat, v13 = .int .i64 j ∧ ((v12 = .int .i64 (-1) ∧ j ≤ p) ∨ (v12 = .int .i64 p ∧ p < j)) ∧ Hid (n + j = n1) ∧ ∃ m, wr = wi.drewN m)
                    case atStart => exact ⟨0, rfl, .inl ⟨rfl, by omega⟩, hid (by omega), 0, rfl⟩
                    case round =>
                      obtain ⟨j, rfl, hat, hnj, m, rfl⟩ := hrel
                      by_cases hj : j < n1
                      · have hj' : (j : Int) < (n1 : Int) := by omega
                        have hwj : IntKind.i64.wrap ((j : Int) + 1) = ((j + 1 : Nat) : Int) := by rw [IntKind.wrap_i64]; omega
                        have ca := (XI.out.row i hi).cell hj
                        by_cases hjp : j = p
                        · subst hjp
                          rw [show ((pairX n1 (apS s) i j : Nat) : Int) * f i = xA by rw [hp1h.out, eA.out]; simp] at ca
                          rcases hat with ⟨rfl, hle⟩ | ⟨rfl, hlt⟩
                          · go_wp2_with fail
                            go_quiet (fail)
                            go_wp2
                            go_roundg (gk - 1)
                            case measure => have := hnj.out; omega
                            case rel => exact ⟨j + 1, rfl, .inr ⟨rfl, by omega⟩, hid (by have := hnj.out; omega), _, rfl⟩
                          · omega
                        · have h0 := hpoh.out j hj hjp
                          rw [show ((pairX n1 (apS s) i j : Nat) : Int) * f i = 0 by rw [h0]; simp] at ca
                          clear h0
                          rcases hat with ⟨rfl, hle⟩ | ⟨rfl, hlt⟩
                          · go_wp2
                            go_roundg (gk - 1)
                            case measure => have := hnj.out; omega
                            case rel => exact ⟨j + 1, rfl, .inl ⟨rfl, by omega⟩, hid (by have := hnj.out; omega), m, rfl⟩
                          · go_wp2
                            go_roundg (gk - 1)
                            case measure => have := hnj.out; omega
                            case rel => exact ⟨j + 1, rfl, .inr ⟨rfl, by omega⟩, hid (by have := hnj.out; omega), m, rfl⟩
                      · have hj' : ¬ (j : Int) < (n1 : Int) := by omega
                        rcases hat with ⟨rfl, hle⟩ | ⟨rfl, hlt⟩
                        · omega
                        · have cs1 := ((RS4.out (by omega)).kept KW.out id).cell hi
                          have cs2 := ((RS4.out (by omega)).kept KW.out id).cell hp
                          have hs12 : ((s p).toList == (s i).toList) = false := by
                            have h := (apS_iff s i p).1 ((PF.out.1 i p hi hp).2 (by rw [hp1h.out]; omega))
                            simp
                            exact fun e => h e.symm
                          have ct := TW.out.cell hp
                          rw [not_taken hfulh.out hi hp hp1h.out] at ct
                          have ft := TW.out.frozen p
                          have hp0 : ¬ (p : Int) < 0 := by omega
                          go_wp2_with fail
                          go_quiet (fail)
                          go_wp2
                          go_roundg (gk0 - 1)
                          case measure => have := hn.out; omega
                          case rel =>
                            have Kw : Kept (fun b => b = TB) wi (wi.setCell ⟨TB, p, none⟩ (.bool true)) := (Kept.refl (fun b => b = TB) wi).setCell (a := ⟨TB, p, none⟩) rfl _
                            refine ⟨i + 1, rfl, ?_, hid ?_, hid ?_, hid ?_⟩
                            · have : zc f (i + 1) = zn := by unfold zc; rw [sumTo, if_neg (by simp [eAh.out]), hznh.out]; rfl
                              rw [this]
                            · have := hn.out; omega
                            · first
                                | exact (KW.out.join Kw (by intro b hb h; have := hTBh.out; omega)).drewN _
                                | exact (KW.out.drewN _).join ((Kept.refl (fun b => b = TB) _).setCell (a := ⟨TB, p, none⟩) rfl _) (by intro b hb h; have := hTBh.out; omega)
                            · first
                                | exact ((TW.out.set p true).congr (fun j hj => tkn_upd eAh.out hp1h.out hpoh.out hj)).of_block rfl
                                | exact ((TW.out.of_block (w' := wi.drewN _) rfl).set p true).congr (fun j hj => tkn_upd eAh.out hp1h.out hpoh.out hj)
                · have hi' : ¬ (i : Int) < (n1 : Int) := by omega
                  have hik : n1 = i := by have := hn.out; omega
                  subst hik
                  clear hi
                  have hz := zc_le f n1
                  have LAST := hid (fun i => law_last (f := f) hfulh.out i)
                  obtain ⟨zn, hzn⟩ : ∃ x, x = zc f n1 := ⟨_, rfl⟩
                  rw [← hzn] at hz ⊢
                  have hznh := hid hzn
                  clear hzn
                  go_wp2_with fail
                  go_loopg [14] n1 (fun n v14 wr => ∃ i m : Nat, v14 = .int .i64 i ∧ Hid (n + i = n1) ∧ wr = wi.drewN m)
                  case atStart => exact ⟨0, 0, rfl, hid (by omega), rfl⟩
                  case round =>
                    obtain ⟨i2, m, rfl, hn2, rfl⟩ := hrel
                    obtain ⟨gk3, hgk3⟩ : ∃ x, x = gk := ⟨_, rfl⟩
                    subst hgk3
                    by_cases hi2 : i2 < n1
                    · have hi2' : (i2 : Int) < (n1 : Int) := by omega
                      have hwi2 : IntKind.i64.wrap ((i2 : Int) + 1) = ((i2 + 1 : Nat) : Int) := by rw [IntKind.wrap_i64]; omega
                      have haA := (HA.out (by omega)).1
                      have haH := (HS.out (by omega)).1
                      subst haA
                      subst haH
                      have RSi := hid ((RS4.out (by omega)).kept KW.out id)
                      have RAi := hid ((RA4.out (by omega)).kept KW.out id)
                      have FE := hid (first_any (ch := cH) (k := n1) (by omega) (RSi.out.drewN m) hi2)
                      go_wp2_with fail
                      refine FE.out.mono ?_
                      intro e w7 hfe
                      obtain ⟨r, m2, rfl, rfl⟩ := hfe
                      cases r with
                      | false =>
                        go_wp2
                        go_roundg (gk3 - 1)
                        case measure => have := hn2.out; omega
                        case rel => exact ⟨i2 + 1, m + m2, rfl, hid (by have := hn2.out; omega), by simp⟩
                      | true =>
                        have ci := RSi.out.cell hi2
                        go_wp2_with fail
                        go_loopg [15, 16, 17] n1 (fun n v15 v16 v17 wr => ∃ j m' : Nat, v17 = .int .i64 j ∧ v15 = .int .i64 (idC s f i2 j : Nat) ∧ v16 = .int .i64 (opC s (tkn f (pairX n1 (apS s)) n1) i2 j : Nat) ∧ Hid (n + j = n1) ∧ wr = wi.drewN m')
                        case atStart => exact ⟨0, m + m2, rfl, rfl, rfl, hid (by omega), by simp⟩
                        case round =>
                          obtain ⟨j, m', rfl, rfl, rfl, hnj, rfl⟩ := hrel
                          have hid1 := idC_le s f i2 j
                          have hop1 := opC_le s (tkn f (pairX n1 (apS s)) n1) i2 j
                          by_cases hj : j < n1
                          · have hj' : (j : Int) < (n1 : Int) := by omega
                            have hwj : IntKind.i64.wrap ((j : Int) + 1) = ((j + 1 : Nat) : Int) := by rw [IntKind.wrap_i64]; omega
                            obtain ⟨idn, hidn⟩ : ∃ x, x = idC s f i2 j := ⟨_, rfl⟩
                            obtain ⟨opn, hopn⟩ : ∃ x, x = opC s (tkn f (pairX n1 (apS s)) n1) i2 j := ⟨_, rfl⟩
                            rw [← hidn] at hid1 ⊢
                            rw [← hopn] at hop1 ⊢
                            have hw8 : IntKind.i64.wrap ((idn : Int) + 1) = ((idn + 1 : Nat) : Int) := by rw [IntKind.wrap_i64]; omega
                            have hw9 : IntKind.i64.wrap ((opn : Int) + 1) = ((opn + 1 : Nat) : Int) := by rw [IntKind.wrap_i64]; omega
                            have hidnh := hid hidn
                            have hopnh := hid hopn
                            clear hidn hopn
                            have cj := RSi.out.cell hj
                            have cf := RAi.out.cell hj
                            have ct := TW.out.cell hj
                            by_cases he : (s j).toList = (s i2).toList
                            · have heb : ((s j).toList == (s i2).toList) = true := by simp [he]
                              have heh := hid he
                              clear he
                              by_cases hf0 : f j = 0
                              · rw [hf0] at cf
                                have hfj := hid hf0
                                clear hf0
                                cases htk : tkn f (pairX n1 (apS s)) n1 j with
                                | true =>
                                  rw [htk] at ct
                                  have htj := hid htk
                                  clear htk
                                  go_wp2_with fail
                                  go_quiet (fail)
                                  go_wp2
                                  go_roundg (gk - 1)
                                  case measure => have := hnj.out; omega
                                  case rel =>
                                    refine ⟨j + 1, _, rfl, ?_, ?_, hid (by have := hnj.out; omega), rfl⟩
                                    · have : idC s f i2 (j + 1) = idn + 1 := by unfold idC; rw [sumTo, if_pos ⟨heh.out, by simp [hfj.out]⟩, hidnh.out]; rfl
                                      rw [this]; rfl
                                    · have : opC s (tkn f (pairX n1 (apS s)) n1) i2 (j + 1) = opn := by unfold opC; rw [sumTo, if_neg (fun h => by have := h.2; rw [htj.out] at this; cases this), hopnh.out]; rfl
                                      rw [this]
                                | false =>
                                  rw [htk] at ct
                                  have htj := hid htk
                                  clear htk
                                  go_wp2_with fail
                                  go_quiet (fail)
                                  go_wp2
                                  go_roundg (gk - 1)
                                  case measure => have := hnj.out; omega
                                  case rel =>
                                    refine ⟨j + 1, _, rfl, ?_, ?_, hid (by have := hnj.out; omega), rfl⟩
                                    · have : idC s f i2 (j + 1) = idn + 1 := by unfold idC; rw [sumTo, if_pos ⟨heh.out, by simp [hfj.out]⟩, hidnh.out]; rfl
                                      rw [this]; rfl
                                    · have : opC s (tkn f (pairX n1 (apS s)) n1) i2 (j + 1) = opn + 1 := by unfold opC; rw [sumTo, if_pos ⟨heh.out, htj.out⟩, hopnh.out]; rfl
                                      rw [this]; rfl
                              · have hfb : (f j == 0) = false := by simp; exact hf0
                                have hfj := hid hf0
                                clear hf0
                                cases htk : tkn f (pairX n1 (apS s)) n1 j with
                                | true =>
                                  rw [htk] at ct
                                  have htj := hid htk
                                  clear htk
                                  go_wp2_with fail
                                  go_quiet (fail)
                                  go_wp2
                                  go_roundg (gk - 1)
                                  case measure => have := hnj.out; omega
                                  case rel =>
                                    refine ⟨j + 1, _, rfl, ?_, ?_, hid (by have := hnj.out; omega), rfl⟩
                                    · have : idC s f i2 (j + 1) = idn := by unfold idC; rw [sumTo, if_neg (fun h => by have := h.2; simp [hfj.out] at this), hidnh.out]; rfl
                                      rw [this]
                                    · have : opC s (tkn f (pairX n1 (apS s)) n1) i2 (j + 1) = opn := by unfold opC; rw [sumTo, if_neg (fun h => by have := h.2; rw [htj.out] at this; cases this), hopnh.out]; rfl
                                      rw [this]
                                | false =>
                                  rw [htk] at ct
                                  have htj := hid htk
                                  clear htk
                                  go_wp2_with fail
                                  go_quiet (fail)
                                  go_wp2
                                  go_roundg (gk - 1)
                                  case measure => have := hnj.out; omega
                                  case rel =>
                                    refine ⟨j + 1, _, rfl, ?_, ?_, hid (by have := hnj.out; omega), rfl⟩
                                    · have : idC s f i2 (j + 1) = idn := by unfold idC; rw [sumTo, if_neg (fun h => by have := h.2; simp [hfj.out] at this), hidnh.out]; rfl
                                      rw [this]
                                    · have : opC s (tkn f (pairX n1 (apS s)) n1) i2 (j + 1) = opn + 1 := by unfold opC; rw [sumTo, if_pos ⟨heh.out, htj.out⟩, hopnh.out]; rfl
                                      rw [this]; rfl
                            · have heb : ((s j).toList == (s i2).toList) = false := by simp; exact he
                              have heh := hid he
                              clear he
                              go_wp2_with fail
                              go_quiet (fail)
                              go_wp2
                              go_roundg (gk - 1)
                              case measure => have := hnj.out; omega
                              case rel =>
                                refine ⟨j + 1, _, rfl, ?_, ?_, hid (by have := hnj.out; omega), rfl⟩
                                · have : idC s f i2 (j + 1) = idn := by unfold idC; rw [sumTo, if_neg (fun h => heh.out h.1), hidnh.out]; rfl
                                  rw [this]
                                · have : opC s (tkn f (pairX n1 (apS s)) n1) i2 (j + 1) = opn := by unfold opC; rw [sumTo, if_neg (fun h => heh.out h.1), hopnh.out]; rfl
                                  rw [this]
                          · have hj' : ¬ (j : Int) < (n1 : Int) := by omega
                            have hjk : n1 = j := by have := hnj.out; omega
                            subst hjk
                            have hlast := LAST.out i2
                            rw [← hznh.out] at hlast
                            obtain ⟨idn, hidn⟩ : ∃ x, x = idC s f i2 n1 := ⟨_, rfl⟩
                            obtain ⟨opn, hopn⟩ : ∃ x, x = opC s (tkn f (pairX n1 (apS s)) n1) i2 n1 := ⟨_, rfl⟩
                            rw [← hidn] at hid1 hlast ⊢
                            rw [← hopn] at hop1 hlast ⊢
                            obtain ⟨su, hsu⟩ : ∃ x, x = idn + opn := ⟨_, rfl⟩
                            have hw8 : IntKind.i64.wrap ((idn : Int) + (opn : Int)) = (su : Int) := by rw [IntKind.wrap_i64]; omega
                            have hle : ¬ (zn : Int) < (su : Int) := by omega
                            clear hidn hopn hsu hlast hj
                            go_wp2
                            go_roundg (gk3 - 1)
                            case measure => have := hn2.out; omega
                            case rel => exact ⟨i2 + 1, m', rfl, hid (by have := hn2.out; omega), rfl⟩
                    · have hi2' : ¬ (i2 : Int) < (n1 : Int) := by omega
                      go_wp2
                      go_ret
                      exact ⟨rfl, (KL.out.trans KW.out).drewN m⟩
          · have hb1 : ((n1 : Int) != (n0 : Int)) = true := by simp; omega
            clear h1
            go_wp2
            go_ret
            exact ⟨rfl, KS.out⟩
end Go.Proofs.Qxb6613837a
