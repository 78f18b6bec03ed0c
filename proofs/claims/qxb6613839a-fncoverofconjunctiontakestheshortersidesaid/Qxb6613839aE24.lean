import Derived.Test.Qxb6613839aE21
import Derived.Test.Qxb6613839aE22
import Derived.Test.Qxb6613839aE23
import Derived.Deep.Cut
import Derived.Deep.CutRange
import Derived.Deep.QuietTactic
namespace Go.Proofs.Qxb6613839a
open Go.RowKit
set_option linter.unusedVariables false
set_option linter.unusedSimpArgs false

theorem short_terms (pa pb : ByteArray) (s0 s1 : Nat → ByteArray) (n0 n1 : Nat) : shorter (prs (fun _ => pa) s0 n0) (prs (fun _ => pb) s1 n1) = if n1 < n0 then prs (fun _ => pb) s1 n1 else prs (fun _ => pa) s0 n0 := by
  unfold shorter
  rw [prs_length, prs_length]

set_option maxRecDepth 100000 in
set_option maxHeartbeats 4000000 in
theorem conj_any (pa pb : ByteArray) (a0 a1 : Option Addr) (n0 c0 n1 c1 : Nat) (s0 s1 : Nat → ByteArray) (w : World) (h0 : Strs w a0 n0 s0) (h1 : Strs w a1 n1 s1) (m0 : n0 ≤ maxLen) (m1 : n1 ≤ maxLen) (ma : pa.size ≤ maxLen) (mb : pb.size ≤ maxLen) :
    Calls Try.prog 3 #[.string pa, .slice a0 n0 c0, .string pb, .slice a1 n1 c1] w fun e w' => e = .returned (.bool true) ∧ Below w.heap.size w w' := by
  have HZ := hid (zz6_any pa pb a0 a1 n0 c0 n1 c1 s0 s1 w h0 h1 m0 m1 ma mb)
  unfold maxLen at m0 m1 ma mb
  have H0 := hid h0
  have H1 := hid h1
  clear h0 h1
  go_enter Try.func3, Try.ntmps3
  go_wp2_with fail
  refine HZ.out.mono ?_
  rintro e w1 ⟨r, rfl, hr, hb1⟩
  clear HZ
  cases r
  · clear hr
    go_wp2
    go_ret
    exact ⟨rfl, hb1⟩
  obtain ⟨za, zb, S0', S1'⟩ := hr rfl
  have S0 := hid S0'
  have S1 := hid S1'
  clear hr S0' S1'
  by_cases q0 : n0 > 4096
  · go_wp2
    go_ret
    exact ⟨rfl, hb1⟩
  by_cases q1 : n1 > 4096
  · go_wp2
    go_ret
    exact ⟨rfl, hb1⟩
  by_cases q2 : (pa.size : Int) + pb.size > 1048576
  · go_wp2
    go_ret
    exact ⟨rfl, hb1⟩
  go_wp2_with fail
  go_loopw [9, 10] (fun z i wr => ∃ (k : Nat) (q : Int), k ≤ n0 ∧ i = .int .i64 k ∧ z = .int .i64 q ∧ 0 ≤ q ∧ q ≤ 1048576 ∧ Below w.heap.size w wr) (fun _ i _ => n0 - (intOf i).toNat)
  case atStart => exact ⟨0, _, by omega, rfl, rfl, by omega, by omega, hb1⟩
  case round =>
    clear hb1
    obtain ⟨k, q, hk, rfl, rfl, hq0, hq1, hbel⟩ := hrel
    by_cases hlt : k < n0
    · obtain ⟨b, off, rfl, hc⟩ := (H0.out.below hbel).at hlt
      have hs := S0.out k hlt
      generalize s0 k = st at *
      by_cases e2 : q + (16 + st.size) > 1048576
      · go_wp2
        go_ret
        exact ⟨rfl, hbel⟩
      go_wp2
      go_roundw
      case rel => exact ⟨k + 1, _, by omega, by go_num, rfl, by omega, by omega, hbel⟩
      case measure => simp [intOf]; omega
    go_wp2_with fail
    go_loopw [9, 11] (fun z i wr => ∃ (k : Nat) (q : Int), k ≤ n1 ∧ i = .int .i64 k ∧ z = .int .i64 q ∧ 0 ≤ q ∧ q ≤ 1048576 ∧ Below w.heap.size w wr) (fun _ i _ => n1 - (intOf i).toNat)
    case atStart => exact ⟨0, q, by omega, rfl, rfl, by omega, by omega, hbel⟩
    case round =>
      clear hbel
      obtain ⟨k1, q, hk1, rfl, rfl, hq0, hq1, hbel⟩ := hrel
      by_cases hlt1 : k1 < n1
      · obtain ⟨b, off, rfl, hc⟩ := (H1.out.below hbel).at hlt1
        have hs := S1.out k1 hlt1
        generalize s1 k1 = st at *
        by_cases e2 : q + (16 + st.size) > 1048576
        · go_wp2
          go_ret
          exact ⟨rfl, hbel⟩
        go_wp2
        go_roundw
        case rel => exact ⟨k1 + 1, _, by omega, by go_num, rfl, by omega, by omega, hbel⟩
        case measure => simp [intOf]; omega
      have BEL := hid hbel
      have DA := hid (fun W (h : Strs W a0 n0 s0) => disj1_any pa a0 n0 c0 s0 W h (by omega))
      have DB := hid (fun W (h : Strs W a1 n1 s1) => disj1_any pb a1 n1 c1 s1 W h (by omega))
      have gA := (or_good (nds_good (fun _ => pa) s0 (fun _ => false) n0) (by rw [tms_flat, prs_length]; omega)).1
      have gB := (or_good (nds_good (fun _ => pb) s1 (fun _ => false) n1) (by rw [tms_flat, prs_length]; omega)).1
      rw [tms_flat] at gA gB
      obtain ⟨TA, vA, TB, vB, TO, vO, TE, vE, TN, vN, l', NOTA, NOTB, ORP, NOTE, NOTN, CVE, CVN⟩ := conj_pack gA gB (by rw [prs_length, prs_length]; omega)
      rw [short_terms] at CVE
      clear gA gB hbel
      generalize (ndPair (ndOf (nds (fun _ => pa) s0 (fun _ => false) n0))).1 = Ta at *
      generalize (ndPair (ndOf (nds (fun _ => pa) s0 (fun _ => false) n0))).2 = ua at *
      generalize (ndPair (ndOf (nds (fun _ => pb) s1 (fun _ => false) n1))).1 = Tb at *
      generalize (ndPair (ndOf (nds (fun _ => pb) s1 (fun _ => false) n1))).2 = ub at *
      go_wp2_with fail
      refine (DA.out _ (H0.out.below BEL.out)).mono ?_
      rintro e w2 ⟨pA, rfl, hEA, hb2⟩
      have BE2 := hid (below_next BEL.out hb2)
      have EA2 := hid hEA
      clear DA BEL hEA hb2
      go_wp2_with fail
      refine (DB.out _ (H1.out.below BE2.out)).mono ?_
      rintro e w3 ⟨pB, rfl, hEB, hb3⟩
      have BE3 := hid (below_next BE2.out hb3)
      have EA3 := hid (EA2.out.below hb3)
      have EB3 := hid hEB
      clear DB BE2 EA2 hEB hb3
      go_wp2_with fail
      refine (NOTA.out _ _ EA3.out).mono ?_
      rintro e w4 ⟨pnA, rfl, hnA, hb4⟩
      have BE4 := hid (below_next BE3.out hb4)
      have EB4 := hid (EB3.out.below hb4)
      have NA4 := hid hnA
      clear NOTA BE3 EA3 EB3 hnA hb4
      go_wp2_with fail
      refine (NOTB.out _ _ EB4.out).mono ?_
      rintro e w5 ⟨pnB, rfl, hnB, hb5⟩
      have BE5 := hid (below_next BE4.out hb5)
      have NA5 := hid (NA4.out.below hb5)
      have NB5 := hid hnB
      clear NOTB BE4 EB4 NA4 hnB hb5
      go_wp2_with fail
      refine (ORP.out _ _ _ _ _ (new0 rfl) (new1 rfl) (NA5.out.alloc _) (NB5.out.alloc _)).mono ?_
      rintro e w6 ⟨pO, rfl, hO, hb6⟩
      have BE6 := hid (below_next (BE5.out.alloc BE5.out.size _) hb6)
      have EO6 := hid hO
      clear ORP BE5 NA5 NB5 hO hb6
      go_wp2_with fail
      refine (NOTE.out _ _ EO6.out).mono ?_
      rintro e w7 ⟨pE, rfl, hE, hb7⟩
      have BE7 := hid (below_next BE6.out hb7)
      have EE7 := hid hE
      clear NOTE BE6 EO6 hE hb7
      go_wp2_with fail
      refine (unit_t pE TE vE _ _ EE7.out CVE.out).mono ?_
      rintro e w8 ⟨a8, n8, c8, rfl, ho8, hb8⟩
      have O8 := hid ho8
      have EE8 := hid (EE7.out.below hb8)
      have BE8 := hid (below_next BE7.out hb8)
      clear ho8 hb8 EE7 BE7 CVE
      go_wp2_with fail
      refine (NOTN.out _ _ EE8.out).mono ?_
      rintro e w9 ⟨pN, rfl, hN, hb9⟩
      have O9 := hid (owns_below2 O8.out hb9)
      have BE9 := hid (below_next BE8.out hb9)
      have EN9 := hid hN
      clear hN hb9 EE8 BE8 NOTN O8
      go_wp2_with fail
      refine (unit_f pN TN vN l' _ EN9.out CVN.out).mono ?_
      rintro e wx ⟨rfl, hbx⟩
      have OX := hid (owns_below2 O9.out hbx)
      have BEX := hid (below_next BE9.out hbx)
      clear hbx EN9 CVN O9 BE9
      by_cases hn : n1 < n0
      · rw [if_pos hn] at OX
        obtain ⟨h8, ht8⟩ := trow_of OX.out
        subst n8
        have TX := hid ht8
        clear ht8 OX
        go_wp2_with fail
        go_loopw [21] (fun i wy => ∃ (k : Nat) (nq : Nat), k ≤ n1 ∧ i = .int .i64 k ∧ wy = wx.drewN nq) (fun i _ => n1 - (intOf i).toNat)
        case atStart => exact ⟨0, 0, by omega, rfl, rfl⟩
        case round =>
          obtain ⟨k4, nq, hk4, rfl, rfl⟩ := hrel
          by_cases hlt4 : k4 < n1
          · obtain ⟨b0, off0, rfl, hc0'⟩ := (H1.out.below BEX.out).at hlt4
            obtain ⟨g8, rfl, d1', d2⟩ := TX.out.at hlt4
            have d1 : wx.cell? ⟨g8, k4 * 2, none⟩ = some (.string pb) := d1'
            clear d1'
            generalize s1 k4 = s at *
            go_wp2_with fail
            go_quiet (fail)
            go_wp2
            go_roundw
            case rel => exact ⟨k4 + 1, _, by omega, by go_num, rfl⟩
            case measure => simp [intOf]; omega
          · go_wp2
            go_ret
            exact ⟨rfl, BEX.out.trans ⟨rfl, rfl, rfl, Nat.le_refl _, fun _ _ => rfl⟩⟩
      · rw [if_neg hn] at OX
        obtain ⟨h8, ht8⟩ := trow_of OX.out
        subst n8
        have TX := hid ht8
        clear ht8 OX
        go_wp2_with fail
        go_loopw [21] (fun i wy => ∃ (k : Nat) (nq : Nat), k ≤ n0 ∧ i = .int .i64 k ∧ wy = wx.drewN nq) (fun i _ => n0 - (intOf i).toNat)
        case atStart => exact ⟨0, 0, by omega, rfl, rfl⟩
        case round =>
          obtain ⟨k4, nq, hk4, rfl, rfl⟩ := hrel
          by_cases hlt4 : k4 < n0
          · obtain ⟨b0, off0, rfl, hc0'⟩ := (H0.out.below BEX.out).at hlt4
            obtain ⟨g8, rfl, d1', d2⟩ := TX.out.at hlt4
            have d1 : wx.cell? ⟨g8, k4 * 2, none⟩ = some (.string pa) := d1'
            clear d1'
            generalize s0 k4 = s at *
            go_wp2_with fail
            go_quiet (fail)
            go_wp2
            go_roundw
            case rel => exact ⟨k4 + 1, _, by omega, by go_num, rfl⟩
            case measure => simp [intOf]; omega
          · go_wp2
            go_ret
            exact ⟨rfl, BEX.out.trans ⟨rfl, rfl, rfl, Nat.le_refl _, fun _ _ => rfl⟩⟩
end Go.Proofs.Qxb6613839a
