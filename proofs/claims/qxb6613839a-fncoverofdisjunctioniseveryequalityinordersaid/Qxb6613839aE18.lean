import Derived.Test.Qxb6613839aE19
import Derived.Deep.RegionWith
import Derived.Deep.RegionHeld3
import Derived.Deep.QuietTactic
import Derived.Deep.Cut
import Derived.Deep.CutRange
namespace Go.Proofs.Qxb6613839a
open Go.RowKit
set_option linter.unusedVariables false
set_option linter.unusedSimpArgs false

theorem cellD {w w1 : World} {B k : Nat} {v : Value} (h : w.cell? ⟨B, k, none⟩ = some v) (hB : B < w.heap.size) (hb : Below w.drew.heap.size w.drew w1) : w1.cell? ⟨B, k, none⟩ = some v := ((undrew hb).cell (p := ⟨B, k, none⟩) hB).trans h
theorem frozenD {w w1 : World} {B k : Nat} (h : w.frozen? ⟨B, k, none⟩ = false) (hB : B < w.heap.size) (hb : Below w.drew.heap.size w.drew w1) : w1.frozen? ⟨B, k, none⟩ = false := ((undrew hb).frozen (p := ⟨B, k, none⟩) hB).trans h

set_option maxRecDepth 100000 in
set_option maxHeartbeats 4000000 in
theorem disj_any (a0 a1 a2 : Option Addr) (n0 c0 n1 c1 n2 c2 : Nat) (cut : Int) (s0 s1 : Nat → ByteArray) (f : Nat → Bool) (w : World) (h0 : Strs w a0 n0 s0) (h1 : Strs w a1 n1 s1) (h2 : Bools w a2 n2 f) (m0 : n0 ≤ maxLen) (m1 : n1 ≤ maxLen) (m2 : n2 ≤ maxLen)
    (hc0 : -9223372036854775808 ≤ cut) (hc1 : cut ≤ 9223372036854775807) :
    Calls Try.prog 4 #[.slice a0 n0 c0, .slice a1 n1 c1, .slice a2 n2 c2, .int .i64 cut] w fun e w' => e = .returned (.bool true) ∧ Below w.heap.size w w' := by
  have HZ := hid (zz11_any a0 a1 a2 n0 c0 n1 c1 n2 c2 cut s0 s1 w h0 h1 m0 m1 m2)
  unfold maxLen at m0 m1 m2
  have H0 := hid h0
  have H1 := hid h1
  have H2 := hid h2
  clear h0 h1 h2
  go_enter Try.func4, Try.ntmps4
  go_wp2_with fail
  refine HZ.out.mono ?_
  rintro e w1 ⟨r, rfl, hr, hb1⟩
  clear HZ
  cases r
  · clear hr
    go_wp2
    go_ret
    exact ⟨rfl, hb1⟩
  obtain ⟨S0, S1⟩ : Hid (Small s0 n0) ∧ Hid (Small s1 n1) := hr rfl
  clear hr
  by_cases q0 : n0 > 4096
  · go_wp2_with fail
    go_ret
    exact ⟨rfl, hb1⟩
  by_cases q1 : n1 > 4096
  · go_wp2_with fail
    go_ret
    exact ⟨rfl, hb1⟩
  by_cases q2 : n2 > 4096
  · go_wp2_with fail
    go_ret
    exact ⟨rfl, hb1⟩
  go_wp2_with fail
  go_loopw [9, 10] (fun z i wr => ∃ (k : Nat) (q : Int), k ≤ n0 ∧ i = .int .i64 k ∧ z = .int .i64 q ∧ 0 ≤ q ∧ q ≤ 1048576 ∧ Below w.heap.size w wr) (fun _ i _ => n0 - (intOf i).toNat)
  case atStart => exact ⟨0, n2, by omega, rfl, rfl, by omega, by omega, hb1⟩
  case round =>
    clear hb1
    obtain ⟨k, q, hk, rfl, rfl, hq0, hq1, hbel⟩ := hrel
    by_cases hlt : k < n0
    · obtain ⟨b, off, rfl, hc⟩ := (H0.out.below hbel).at hlt
      have hs := S0.out k hlt
      generalize s0 k = st at *
      by_cases e2 : q + (16 + st.size) > 1048576
      · go_wp2
        go_ret
        exact ⟨rfl, hbel⟩
      go_wp2
      go_roundw
      case rel => exact ⟨k + 1, _, by omega, by go_num, rfl, by omega, by omega, hbel⟩
      case measure => simp [intOf]; omega
    go_wp2_with fail
    go_loopw [9, 11] (fun z i wr => ∃ (k : Nat) (q : Int), k ≤ n1 ∧ i = .int .i64 k ∧ z = .int .i64 q ∧ 0 ≤ q ∧ q ≤ 1048576 ∧ Below w.heap.size w wr) (fun _ i _ => n1 - (intOf i).toNat)
    case atStart => exact ⟨0, q, by omega, rfl, rfl, by omega, by omega, hbel⟩
    case round =>
      clear hbel
      obtain ⟨k1, q, hk1, rfl, rfl, hq0, hq1, hbel⟩ := hrel
      by_cases hlt1 : k1 < n1
      · obtain ⟨b, off, rfl, hc⟩ := (H1.out.below hbel).at hlt1
        have hs := S1.out k1 hlt1
        generalize s1 k1 = st at *
        by_cases e2 : q + (16 + st.size) > 1048576
        · go_wp2
          go_ret
          exact ⟨rfl, hbel⟩
        go_wp2
        go_roundw
        case rel => exact ⟨k1 + 1, _, by omega, by go_num, rfl, by omega, by omega, hbel⟩
        case measure => simp [intOf]; omega
      go_upto_if 80 with fail
      go_cut [12] from 77 to 82 (fun v wc => ∃ n : Nat, v = .int .i64 n ∧ n ≤ n0 ∧ n ≤ n1 ∧ Hid (Below w.heap.size w wc))
      case first =>
        by_cases hn : n1 < n0
        · go_wp2_with fail
          go_meet
          case rel => exact ⟨n1, rfl, by omega, by omega, hbel⟩
        · go_wp2_with fail
          go_meet
          case rel => exact ⟨n0, rfl, by omega, by omega, hbel⟩
      case rest =>
        clear hbel
        obtain ⟨n, rfl, hn0, hn1, BEL⟩ := hcut
        by_cases cu0 : cut < 0
        · go_wp2
          go_ret
          exact ⟨rfl, BEL.out⟩
        by_cases cu1 : cut > n
        · go_wp2
          go_ret
          exact ⟨rfl, BEL.out⟩
        have hmk := make35 n (by omega)
        obtain ⟨m, rfl⟩ : ∃ m : Nat, cut = m := ⟨cut.toNat, by omega⟩
        go_wp2_with fail
        go_loopw [14] (fun i wr => ∃ k : Nat, k ≤ n ∧ i = .int .i64 k ∧ Es wr wc.heap.size n k s0 s1 (fun j => decide (j < n2) && f j) ∧ Below w.heap.size w wr) (fun i _ => n - (intOf i).toNat)
        case atStart => exact ⟨0, by omega, rfl, Es.start rfl, BEL.out.alloc BEL.out.size _⟩
        case round =>
          obtain ⟨k3, hk3, rfl, hes, hbel⟩ := hrel
          by_cases hlt3 : k3 < n
          · obtain ⟨b0, off0, rfl, hc0'⟩ := (H0.out.below hbel).at (show k3 < n0 by omega)
            obtain ⟨b1, off1, rfl, hc1'⟩ := (H1.out.below hbel).at (show k3 < n1 by omega)
            obtain ⟨x, hcB, hfB⟩ := hes.at hlt3
            have hB := hes.lt
            have ES := hid hes
            have PUT := hid (fun (w1 : World) (q : Nat) hb hq he => hes.put (w1 := w1) (q := q) hlt3 hb hq he)
            clear hes
            by_cases hf2 : k3 < n2
            · obtain ⟨b2, off2, rfl, hc2'⟩ := (H2.out.below hbel).at hf2
              cases hfk : f k3
              · rw [hfk] at hc2'
                have hfl : (decide (k3 < n2) && f k3) = false := by simp [hf2, hfk]
                rw [hfl] at PUT
                clear hfl
                go_wp2_with fail
                go_region_with (go_at_call 13; refine (eqnv_any _ _ _).mono ?_; rintro e w1 ⟨q, rfl, hq, he, hb1⟩; have hcB1 := cellD hcB hB hb1; have hfB1 := frozenD hfB hB hb1)
                all_goals
                  have FIN := hid (And.intro (PUT.out w1 q (undrew hb1) hq he) ((below_next hbel (undrew hb1)).setCell (p := ⟨wc.heap.size, k3, none⟩) BEL.out.size (.pointer (some ⟨q, 0, none⟩))))
                  clear hcB1 hfB1 hb1 he hq
                  go_wp2
                  go_roundw
                  case rel => exact ⟨k3 + 1, by omega, by go_num, FIN.out.1, FIN.out.2⟩
                  case measure => simp [intOf]; omega
              · rw [hfk] at hc2'
                have hfl : (decide (k3 < n2) && f k3) = true := by simp [hf2, hfk]
                rw [hfl] at PUT
                clear hfl
                go_wp2_with fail
                go_region_with (go_at_call 12; refine (eqvn_any _ _ _).mono ?_; rintro e w1 ⟨q, rfl, hq, he, hb1⟩; have hcB1 := cellD hcB hB hb1; have hfB1 := frozenD hfB hB hb1)
                all_goals
                  have FIN := hid (And.intro (PUT.out w1 q (undrew hb1) hq he) ((below_next hbel (undrew hb1)).setCell (p := ⟨wc.heap.size, k3, none⟩) BEL.out.size (.pointer (some ⟨q, 0, none⟩))))
                  clear hcB1 hfB1 hb1 he hq
                  go_wp2
                  go_roundw
                  case rel => exact ⟨k3 + 1, by omega, by go_num, FIN.out.1, FIN.out.2⟩
                  case measure => simp [intOf]; omega
            · skip
              have hfl : (decide (k3 < n2) && f k3) = false := by simp [hf2]
              rw [hfl] at PUT
              clear hfl
              go_wp2_with fail
              go_region_with (go_at_call 13; refine (eqnv_any _ _ _).mono ?_; rintro e w1 ⟨q, rfl, hq, he, hb1⟩; have hcB1 := cellD hcB hB hb1; have hfB1 := frozenD hfB hB hb1)
              all_goals
                have FIN := hid (And.intro (PUT.out w1 q (undrew hb1) hq he) ((below_next hbel (undrew hb1)).setCell (p := ⟨wc.heap.size, k3, none⟩) BEL.out.size (.pointer (some ⟨q, 0, none⟩))))
                clear hcB1 hfB1 hb1 he hq
                go_wp2
                go_roundw
                case rel => exact ⟨k3 + 1, by omega, by go_num, FIN.out.1, FIN.out.2⟩
                case measure => simp [intOf]; omega
          · have hkn : k3 = n := by omega
            rw [hkn] at hes
            clear hkn
            have ES := hid hes
            have BE3 := hid hbel
            clear hes hbel
            have hBw := hid BEL.out.size
            clear hmk BEL
            generalize wc.heap.size = B at *
            obtain ⟨T1, v1, CV1, OR1⟩ := or_whole B n s0 s1 (fun j => decide (j < n2) && f j) (by omega)
            obtain ⟨T2, v2, TA, vA, TB, vB, CV2, ORA, ORB, ORC⟩ := or_split B n m s0 s1 (fun j => decide (j < n2) && f j) (by omega) (by omega)
            go_wp2_with fail
            refine (OR1.out _ _ ES.out).mono ?_
            rintro e w3 ⟨p1, rfl, he1, hb3⟩
            have ES3 := hid (ES.out.below hb3)
            have E1 := hid he1
            have BE4 := hid (below_next BE3.out hb3)
            clear he1 hb3 ES BE3
            go_upto_region 31 with fail
            go_cut [16] from 133 to 142 (fun v wx => ∃ p, v = .pointer (some ⟨p, 0, none⟩) ∧ Hid (Expr wx p T2 v2 ∧ Expr wx p1 T1 v1 ∧ Below w.heap.size w wx))
            case first =>
              by_cases hnm' : n = m
              · have hnm := hid hnm'
                have hsub : n - m = 0 := by omega
                go_region_held3 (fun _ => True) (first | trivial | go_keep) (first
                  | (go_at_call 9; refine (ORA.out _ _ ES3.out.drew).mono ?_; rintro e w4 ⟨pA, rfl, hEA, hb4⟩; have ES4 := hid (ES3.out.drew.below hb4); have E14 := hid (E1.out.drew.below hb4); have BE5 := hid (below_next BE4.out.drew hb4); have EA4 := hid hEA; clear ORA hEA hb4)
                  | (go_at_call 9; refine (ORB.out _ _ _ _ ES4.out (.inl ⟨rfl, hnm.out⟩)).mono ?_; rintro e w5 ⟨pB, rfl, hEB, hb5⟩; have EA5 := hid (EA4.out.below hb5); have E15 := hid (E14.out.below hb5); have BE6 := hid (below_next BE5.out hb5); have EB5 := hid hEB; clear ORB hEB hb5)
                  | (go_at_call 9; refine (ORC.out _ _ _ _ _ (new0 rfl) (new1 rfl) (EA5.out.alloc _) (EB5.out.alloc _)).mono ?_; rintro e w6 ⟨p2, rfl, hE2, hb6⟩; have FIN := hid (And.intro hE2 (And.intro ((E15.out.alloc _).below hb6) (below_next (BE6.out.alloc BE6.out.size _) hb6))); clear ORC hE2 hb6))
                all_goals
                  go_wp2_with fail
                  subst hnm'
                  go_meet
                  case rel => exact ⟨_, rfl, FIN.out⟩
              · skip
                go_region_held3 (fun _ => True) (first | trivial | go_keep) (first
                  | (go_at_call 9; refine (ORA.out _ _ ES3.out.drew).mono ?_; rintro e w4 ⟨pA, rfl, hEA, hb4⟩; have ES4 := hid (ES3.out.drew.below hb4); have E14 := hid (E1.out.drew.below hb4); have BE5 := hid (below_next BE4.out.drew hb4); have EA4 := hid hEA; clear ORA hEA hb4)
                  | (go_at_call 9; refine (ORB.out _ _ _ _ ES4.out (.inr ⟨rfl, rfl⟩)).mono ?_; rintro e w5 ⟨pB, rfl, hEB, hb5⟩; have EA5 := hid (EA4.out.below hb5); have E15 := hid (E14.out.below hb5); have BE6 := hid (below_next BE5.out hb5); have EB5 := hid hEB; clear ORB hEB hb5)
                  | (go_at_call 9; refine (ORC.out _ _ _ _ _ (new0 rfl) (new1 rfl) (EA5.out.alloc _) (EB5.out.alloc _)).mono ?_; rintro e w6 ⟨p2, rfl, hE2, hb6⟩; have FIN := hid (And.intro hE2 (And.intro ((E15.out.alloc _).below hb6) (below_next (BE6.out.alloc BE6.out.size _) hb6))); clear ORC hE2 hb6))
                all_goals
                  go_wp2_with fail
                  go_meet
                  case rel => exact ⟨_, rfl, FIN.out⟩
            case rest =>
              obtain ⟨p2, rfl, HX⟩ := hcut
              clear ORA ORB ORC OR1 ES3 E1 BE4
              obtain ⟨E2', E1', BE'⟩ := HX.out
              have E2 := hid E2'
              have BE := hid BE'
              clear HX E2' BE'
              go_wp2_with fail
              refine (unit_t p1 T1 v1 (prs s0 s1 n) _ E1' CV1.out).mono ?_
              rintro e w8 ⟨a8, n8, c8, rfl, ho8, hb8⟩
              obtain ⟨rfl, ht8⟩ := trow_of ho8
              have T8 := hid ht8
              have E28 := hid (E2.out.below hb8)
              have BE8 := hid (below_next BE.out hb8)
              clear ht8 ho8 hb8 E2 BE E1' CV1
              go_wp2_with fail
              refine (unit_t p2 T2 v2 (prs s0 s1 n8) _ E28.out CV2.out).mono ?_
              rintro e w9 ⟨a9, n9, c9, rfl, ho9, hb9⟩
              obtain ⟨h9, ht9⟩ := trow_of ho9
              subst h9
              have T9 := hid ht9
              have T89 := hid (T8.out.below hb9)
              have BE9 := hid (below_next BE8.out hb9)
              clear ht9 ho9 hb9 T8 BE8 E28 CV2
              go_wp2_with fail
              go_loopw [21] (fun i wx => ∃ (k : Nat) (nq : Nat), k ≤ n9 ∧ i = .int .i64 k ∧ wx = w9.drewN nq) (fun i _ => n9 - (intOf i).toNat)
              case atStart => exact ⟨0, 0, by omega, rfl, rfl⟩
              case round =>
                obtain ⟨k4, nq, hk4, rfl, rfl⟩ := hrel
                by_cases hlt4 : k4 < n9
                · obtain ⟨b0, off0, rfl, hc0'⟩ := (H0.out.below BE9.out).at (show k4 < n0 by omega)
                  obtain ⟨b1, off1, rfl, hc1'⟩ := (H1.out.below BE9.out).at (show k4 < n1 by omega)
                  obtain ⟨g8, rfl, d1, d2⟩ := T89.out.at hlt4
                  obtain ⟨g9, rfl, d3, d4⟩ := T9.out.at hlt4
                  generalize s0 k4 = p at *
                  generalize s1 k4 = s at *
                  go_wp2_with fail
                  go_quiet (fail)
                  go_wp2_with fail
                  go_quiet (fail)
                  go_wp2
                  go_roundw
                  case rel => exact ⟨k4 + 1, _, by omega, by go_num, rfl⟩
                  case measure => simp [intOf]; omega
                · go_wp2
                  go_ret
                  exact ⟨rfl, BE9.out.trans ⟨rfl, rfl, rfl, Nat.le_refl _, fun _ _ => rfl⟩⟩
end Go.Proofs.Qxb6613839a
