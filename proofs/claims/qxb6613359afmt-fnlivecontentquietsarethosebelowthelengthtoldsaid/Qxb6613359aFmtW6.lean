import Derived.Test.Qxb6613359aFmtW5
namespace Go.Proofs.Qxb6613359aFmt
open Go.RowKit Go.Extern.Stop Go.Stop Go.Extern
set_option linter.unusedVariables false

theorem content_none (n : Nat) (z : Nat → Int) (q : Int) : content none n z q = false := rfl
theorem content_last (lt : Int) (n : Nat) (z : Nat → Int) (q : Int) (h : q < n) : content (some lt) n z q = (z (n - 1) == lt) := by
  simp [content]
  intro; omega

set_option maxRecDepth 100000 in
set_option maxHeartbeats 1000000 in
theorem con_short (a : Option Addr) (len cap : Nat) (present : Bool) (lt quiet : Int) (w : World) (hl : len ≤ 9223372036854775807) (hs : 131072 < len ∨ quiet < 0) :
    Calls Tryf.prog 4 #[.slice a len cap, .bool present, .int .u64 lt, .int .i64 quiet] w fun e w' => e = .returned (.bool true) ∧ Below w.heap.size w w' := by
  by_cases h1 : 1048576 < len
  · go_enter Tryf.func4, Tryf.ntmps4
    go_wp2
    go_ret
    exact ⟨rfl, Below.refl _ _⟩
  · by_cases h2 : 131072 < len
    · go_enter Tryf.func4, Tryf.ntmps4
      go_wp2
      go_ret
      exact ⟨rfl, Below.refl _ _⟩
    · have h3 : quiet < 0 := by omega
      go_enter Tryf.func4, Tryf.ntmps4
      go_wp2
      go_ret
      exact ⟨rfl, Below.refl _ _⟩

set_option maxRecDepth 100000 in
set_option maxHeartbeats 2000000 in
theorem con_none_zero_lo (F : Interp) (a : Option Addr) (cap : Nat) (lt quiet : Int) (z : Nat → Int) (w : World) (hF : F.answers w.tape) (hlc : 0 ≤ cap) (hl : 0 ≤ 131072) (hq : 0 ≤ quiet) (hrow : TermRow w a 0 z)  (hq1 : quiet < 1) (hv : content none 0 z quiet = false) :
    Calls Tryf.prog 4 #[.slice a 0 cap, .bool false, .int .u64 lt, .int .i64 quiet] w fun e w' => e = .returned (.bool true) ∧ Below w.heap.size w w' := by
  have R := hid hrow
  have HB := hid hv
  clear hrow hv
  go_enter Tryf.func4, Tryf.ntmps4
  go_wp2_with (first | (go_at_call 12; go_in))
  refine (nondec_any a 0 cap z _ (by omega) hlc R.out).mono ?_
  rintro e w1 ⟨r, rfl, n1, hw1⟩
  have B1 : Hid (Below w.heap.size w w1) := by rw [hw1]; exact drawn_below w n1
  clear hw1
  cases r with
  | false =>
    go_wp2_with fail
    go_ret
    exact ⟨rfl, B1.out⟩
  | true =>
    have R1 := hid (R.out.below B1.out)
    clear R
    go_wp2_with fail
    refine (leader_no lt _).mono ?_
    rintro e w1' ⟨rfl, hw1'⟩
    have L1 : Hid (Lead w1' (.pointer none) none) := rfl
    have B1' : Hid (Below w.heap.size w w1') := by rw [hw1']; exact B1
    have R1' : Hid (TermRow w1' a 0 z) := by rw [hw1']; exact R1
    clear hw1' B1 R1
    go_wp2_with fail
    refine (entries_any _ 0 cap z _ _ (by omega) hlc R1'.out).mono ?_
    rintro e w2 ⟨g, rfl, hg, hE, hb2⟩
    have B2 := hid (below_next B1'.out hb2)
    have R2 := hid (R1'.out.below hb2)
    have L2 := hid (L1.out.below hb2)
    have E2 := hid hE
    clear hE hb2 B1' R1' L1
    go_wp2_with fail
    refine (checker_any (.bool true) g 0 _).mono ?_
    rintro e w3 ⟨rfl, hc3, hb3⟩
    have B3 := hid (below_next B2.out hb3)
    have R3 := hid (R2.out.below hb3)
    have L3 := hid (L2.out.below hb3)
    have C3 := hid (chk_mk E2.out hb3 hc3)
    clear E2 B2 R2 L2 hb3 hc3
    have F3 : Hid (F.answers w3.tape) := by rw [Hid, B3.out.tape]; exact hF
    go_wp2_with fail
    refine (zl_any F _ none _ 0 z quiet _ F3.out (by omega) hq C3.out L3.out).mono ?_
    rw [HB.out]
    rintro e w4 ⟨b4, s4, rfl, hb4, hh4, hbel4⟩
    have B4 := hid (below_next B3.out hbel4)
    have R4 := hid (R3.out.below hbel4)
    have L4 := hid (L3.out.below hbel4)
    have C4 := hid (C3.out.below hbel4)
    have F4 : Hid (F.answers w4.tape) := by rw [Hid, B4.out.tape]; exact hF
    have hp4 := viol_cell hh4
    clear hh4
    clear hbel4 B3 C3 F3 L3 R3
    go_wp2_with (go_at_call 11; refine (property_any _ _ _ hp4).mono ?_; rintro e _ ⟨rfl, rfl⟩)
    clear hp4
    refine (zl_any F _ none _ 0 z _ _ F4.out (by omega) (by omega) C4.out L4.out).mono ?_
    rw [content_none]
    rintro e w5 ⟨b5, s5, rfl, hb5, hh5, hbel5⟩
    have B5 := hid (below_next B4.out hbel5)
    have R5 := hid (R4.out.below hbel5)
    have L5 := hid (L4.out.below hbel5)
    have C5 := hid (C4.out.below hbel5)
    have F5 : Hid (F.answers w5.tape) := by rw [Hid, B5.out.tape]; exact hF
    have hp5 := viol_cell hh5
    clear hh5
    clear hbel5 B4 C4 F4 L4 R4
    go_wp2_with (go_at_call 11; refine (property_any _ _ _ hp5).mono ?_; rintro e _ ⟨rfl, rfl⟩)
    go_ret
    exact ⟨rfl, B5.out⟩

set_option maxRecDepth 100000 in
set_option maxHeartbeats 2000000 in
theorem con_none_pos_lo (F : Interp) (a : Option Addr) (len cap : Nat) (lt quiet : Int) (z : Nat → Int) (w : World) (hF : F.answers w.tape) (hlc : len ≤ cap) (hl : len ≤ 131072) (hq : 0 ≤ quiet) (hrow : TermRow w a len z) (h0 : 0 < len) (hq1 : quiet < 1) (hv : content none len z quiet = false) :
    Calls Tryf.prog 4 #[.slice a len cap, .bool false, .int .u64 lt, .int .i64 quiet] w fun e w' => e = .returned (.bool true) ∧ Below w.heap.size w w' := by
  have R := hid hrow
  have HB := hid hv
  clear hrow hv
  go_enter Tryf.func4, Tryf.ntmps4
  go_wp2_with (first | (go_at_call 12; go_in))
  refine (nondec_any a len cap z _ (by omega) hlc R.out).mono ?_
  rintro e w1 ⟨r, rfl, n1, hw1⟩
  have B1 : Hid (Below w.heap.size w w1) := by rw [hw1]; exact drawn_below w n1
  clear hw1
  cases r with
  | false =>
    go_wp2_with fail
    go_ret
    exact ⟨rfl, B1.out⟩
  | true =>
    have R1 := hid (R.out.below B1.out)
    clear R
    go_wp2_with fail
    refine (leader_no lt _).mono ?_
    rintro e w1' ⟨rfl, hw1'⟩
    have L1 : Hid (Lead w1' (.pointer none) none) := rfl
    have B1' : Hid (Below w.heap.size w w1') := by rw [hw1']; exact B1
    have R1' : Hid (TermRow w1' a len z) := by rw [hw1']; exact R1
    clear hw1' B1 R1
    go_wp2_with fail
    refine (entries_any _ len cap z _ _ (by omega) hlc R1'.out).mono ?_
    rintro e w2 ⟨g, rfl, hg, hE, hb2⟩
    have B2 := hid (below_next B1'.out hb2)
    have R2 := hid (R1'.out.below hb2)
    have L2 := hid (L1.out.below hb2)
    have E2 := hid hE
    clear hE hb2 B1' R1' L1
    go_wp2_with fail
    refine (checker_any (.bool true) g len _).mono ?_
    rintro e w3 ⟨rfl, hc3, hb3⟩
    have B3 := hid (below_next B2.out hb3)
    have R3 := hid (R2.out.below hb3)
    have L3 := hid (L2.out.below hb3)
    have C3 := hid (chk_mk E2.out hb3 hc3)
    clear E2 B2 R2 L2 hb3 hc3
    have F3 : Hid (F.answers w3.tape) := by rw [Hid, B3.out.tape]; exact hF
    go_wp2_with fail
    refine (zl_any F _ none _ len z quiet _ F3.out (by omega) hq C3.out L3.out).mono ?_
    rw [HB.out]
    rintro e w4 ⟨b4, s4, rfl, hb4, hh4, hbel4⟩
    have B4 := hid (below_next B3.out hbel4)
    have R4 := hid (R3.out.below hbel4)
    have L4 := hid (L3.out.below hbel4)
    have C4 := hid (C3.out.below hbel4)
    have F4 : Hid (F.answers w4.tape) := by rw [Hid, B4.out.tape]; exact hF
    have hp4 := viol_cell hh4
    clear hh4
    clear hbel4 B3 C3 F3 L3 R3
    go_wp2_with (go_at_call 11; refine (property_any _ _ _ hp4).mono ?_; rintro e _ ⟨rfl, rfl⟩)
    clear hp4
    refine (zl_any F _ none _ len z _ _ F4.out (by omega) (by omega) C4.out L4.out).mono ?_
    rw [content_none]
    rintro e w5 ⟨b5, s5, rfl, hb5, hh5, hbel5⟩
    have B5 := hid (below_next B4.out hbel5)
    have R5 := hid (R4.out.below hbel5)
    have L5 := hid (L4.out.below hbel5)
    have C5 := hid (C4.out.below hbel5)
    have F5 : Hid (F.answers w5.tape) := by rw [Hid, B5.out.tape]; exact hF
    have hp5 := viol_cell hh5
    clear hh5
    clear hbel5 B4 C4 F4 L4 R4
    go_wp2_with (go_at_call 11; refine (property_any _ _ _ hp5).mono ?_; rintro e _ ⟨rfl, rfl⟩)
    refine (zl_any F _ none _ len z _ _ F5.out (by omega) (by omega) C5.out L5.out).mono ?_
    rw [content_none]
    rintro e w6 ⟨b6, s6, rfl, hb6, hh6, hbel6⟩
    have B6 := hid (below_next B5.out hbel6)
    clear hbel6
    go_wp2_with fail
    go_ret
    exact ⟨rfl, B6.out⟩

set_option maxRecDepth 100000 in
set_option maxHeartbeats 2000000 in
theorem con_some_zero_lo (F : Interp) (a : Option Addr) (cap : Nat) (lt quiet : Int) (z : Nat → Int) (w : World) (hF : F.answers w.tape) (hlc : 0 ≤ cap) (hl : 0 ≤ 131072) (hq : 0 ≤ quiet) (hrow : TermRow w a 0 z)  (hq1 : quiet < 1) (hv : content (some lt) 0 z quiet = false) :
    Calls Tryf.prog 4 #[.slice a 0 cap, .bool true, .int .u64 lt, .int .i64 quiet] w fun e w' => e = .returned (.bool true) ∧ Below w.heap.size w w' := by
  have R := hid hrow
  have HB := hid hv
  clear hrow hv
  go_enter Tryf.func4, Tryf.ntmps4
  go_wp2_with (first | (go_at_call 12; go_in))
  refine (nondec_any a 0 cap z _ (by omega) hlc R.out).mono ?_
  rintro e w1 ⟨r, rfl, n1, hw1⟩
  have B1 : Hid (Below w.heap.size w w1) := by rw [hw1]; exact drawn_below w n1
  clear hw1
  cases r with
  | false =>
    go_wp2_with fail
    go_ret
    exact ⟨rfl, B1.out⟩
  | true =>
    have R1 := hid (R.out.below B1.out)
    clear R
    go_wp2_with fail
    refine (leader_yes lt _).mono ?_
    rintro e w1' ⟨rfl, hcl, hbl⟩
    have L1 : Hid (Lead w1' (.pointer (some ⟨w1.heap.size, 0, none⟩)) (some lt)) := ⟨_, rfl, hcl⟩
    have B1' := hid (below_next B1.out hbl)
    have R1' := hid (R1.out.below hbl)
    clear hcl hbl B1 R1
    go_wp2_with fail
    refine (entries_any _ 0 cap z _ _ (by omega) hlc R1'.out).mono ?_
    rintro e w2 ⟨g, rfl, hg, hE, hb2⟩
    have B2 := hid (below_next B1'.out hb2)
    have R2 := hid (R1'.out.below hb2)
    have L2 := hid (L1.out.below hb2)
    have E2 := hid hE
    clear hE hb2 B1' R1' L1
    go_wp2_with fail
    refine (checker_any (.bool true) g 0 _).mono ?_
    rintro e w3 ⟨rfl, hc3, hb3⟩
    have B3 := hid (below_next B2.out hb3)
    have R3 := hid (R2.out.below hb3)
    have L3 := hid (L2.out.below hb3)
    have C3 := hid (chk_mk E2.out hb3 hc3)
    clear E2 B2 R2 L2 hb3 hc3
    have F3 : Hid (F.answers w3.tape) := by rw [Hid, B3.out.tape]; exact hF
    go_wp2_with fail
    refine (zl_any F _ (some lt) _ 0 z quiet _ F3.out (by omega) hq C3.out L3.out).mono ?_
    rw [HB.out]
    rintro e w4 ⟨b4, s4, rfl, hb4, hh4, hbel4⟩
    have B4 := hid (below_next B3.out hbel4)
    have R4 := hid (R3.out.below hbel4)
    have L4 := hid (L3.out.below hbel4)
    have C4 := hid (C3.out.below hbel4)
    have F4 : Hid (F.answers w4.tape) := by rw [Hid, B4.out.tape]; exact hF
    have hp4 := viol_cell hh4
    clear hh4
    clear hbel4 B3 C3 F3 L3 R3
    go_wp2_with (go_at_call 11; refine (property_any _ _ _ hp4).mono ?_; rintro e _ ⟨rfl, rfl⟩)
    clear hp4
    refine (zl_any F _ (some lt) _ 0 z _ _ F4.out (by omega) (by omega) C4.out L4.out).mono ?_
    rw [content_at lt _ z _ (by omega)]
    rintro e w5 ⟨b5, s5, rfl, hb5, hh5, hbel5⟩
    have B5 := hid (below_next B4.out hbel5)
    have R5 := hid (R4.out.below hbel5)
    have L5 := hid (L4.out.below hbel5)
    have C5 := hid (C4.out.below hbel5)
    have F5 : Hid (F.answers w5.tape) := by rw [Hid, B5.out.tape]; exact hF
    have hp5 := viol_cell hh5
    clear hh5
    clear hbel5 B4 C4 F4 L4 R4
    go_wp2_with (go_at_call 11; refine (property_any _ _ _ hp5).mono ?_; rintro e _ ⟨rfl, rfl⟩)
    go_ret
    exact ⟨rfl, B5.out⟩

set_option maxRecDepth 100000 in
set_option maxHeartbeats 2000000 in
theorem con_b1_lo (F : Interp) (a : Option Addr) (len cap : Nat) (lt quiet : Int) (z : Nat → Int) (w : World) (hF : F.answers w.tape) (hlc : len ≤ cap) (hl : len ≤ 131072) (hq : 0 ≤ quiet) (hrow : TermRow w a len z) (h0 : 0 < len) (last : Int) (HZ : Hid (z (len - 1) = last)) (hown : (lt == last) = true) (HE : Hid ((z (len - 1) == lt) = true)) (hq1 : quiet < 1) (hv : content (some lt) len z quiet = false) :
    Calls Tryf.prog 4 #[.slice a len cap, .bool true, .int .u64 lt, .int .i64 quiet] w fun e w' => e = .returned (.bool true) ∧ Below w.heap.size w w' := by
  have R := hid hrow
  have HB := hid hv
  clear hrow hv
  go_enter Tryf.func4, Tryf.ntmps4
  go_wp2_with (first | (go_at_call 12; go_in))
  refine (nondec_any a len cap z _ (by omega) hlc R.out).mono ?_
  rintro e w1 ⟨r, rfl, n1, hw1⟩
  have B1 : Hid (Below w.heap.size w w1) := by rw [hw1]; exact drawn_below w n1
  clear hw1
  cases r with
  | false =>
    go_wp2_with fail
    go_ret
    exact ⟨rfl, B1.out⟩
  | true =>
    have R1 := hid (R.out.below B1.out)
    clear R
    go_wp2_with fail
    refine (leader_yes lt _).mono ?_
    rintro e w1' ⟨rfl, hcl, hbl⟩
    have L1 : Hid (Lead w1' (.pointer (some ⟨w1.heap.size, 0, none⟩)) (some lt)) := ⟨_, rfl, hcl⟩
    have B1' := hid (below_next B1.out hbl)
    have R1' := hid (R1.out.below hbl)
    clear hcl hbl B1 R1
    go_wp2_with fail
    refine (entries_any _ len cap z _ _ (by omega) hlc R1'.out).mono ?_
    rintro e w2 ⟨g, rfl, hg, hE, hb2⟩
    have B2 := hid (below_next B1'.out hb2)
    have R2 := hid (R1'.out.below hb2)
    have L2 := hid (L1.out.below hb2)
    have E2 := hid hE
    clear hE hb2 B1' R1' L1
    go_wp2_with fail
    refine (checker_any (.bool true) g len _).mono ?_
    rintro e w3 ⟨rfl, hc3, hb3⟩
    have B3 := hid (below_next B2.out hb3)
    have R3 := hid (R2.out.below hb3)
    have L3 := hid (L2.out.below hb3)
    have C3 := hid (chk_mk E2.out hb3 hc3)
    clear E2 B2 R2 L2 hb3 hc3
    have F3 : Hid (F.answers w3.tape) := by rw [Hid, B3.out.tape]; exact hF
    go_wp2_with fail
    refine (zl_any F _ (some lt) _ len z quiet _ F3.out (by omega) hq C3.out L3.out).mono ?_
    rw [HB.out]
    rintro e w4 ⟨b4, s4, rfl, hb4, hh4, hbel4⟩
    have B4 := hid (below_next B3.out hbel4)
    have R4 := hid (R3.out.below hbel4)
    have L4 := hid (L3.out.below hbel4)
    have C4 := hid (C3.out.below hbel4)
    have F4 : Hid (F.answers w4.tape) := by rw [Hid, B4.out.tape]; exact hF
    have hp4 := viol_cell hh4
    clear hh4
    clear hbel4 B3 C3 F3 L3 R3
    go_wp2_with (go_at_call 11; refine (property_any _ _ _ hp4).mono ?_; rintro e _ ⟨rfl, rfl⟩)
    clear hp4
    refine (zl_any F _ (some lt) _ len z _ _ F4.out (by omega) (by omega) C4.out L4.out).mono ?_
    rw [content_at lt _ z _ (by omega)]
    rintro e w5 ⟨b5, s5, rfl, hb5, hh5, hbel5⟩
    have B5 := hid (below_next B4.out hbel5)
    have R5 := hid (R4.out.below hbel5)
    have L5 := hid (L4.out.below hbel5)
    have C5 := hid (C4.out.below hbel5)
    have F5 : Hid (F.answers w5.tape) := by rw [Hid, B5.out.tape]; exact hF
    have hp5 := viol_cell hh5
    clear hh5
    clear hbel5 B4 C4 F4 L4 R4
    obtain ⟨b, off, rfl, hck, ht⟩ := cell_row R5.out h0
    rw [HZ.out] at hck
    have i1 : (0 : Int) ≤ (len : Int) - 1 := by omega
    have i2 : (len : Int) - 1 < (len : Int) := by omega
    go_wp2_with (go_at_call 11; refine (property_any _ _ _ hp5).mono ?_; rintro e _ ⟨rfl, rfl⟩)
    refine (zl_any F _ (some lt) _ len z _ _ F5.out (by omega) (by omega) C5.out L5.out).mono ?_
    rw [content_last lt _ z _ (by omega), HE.out]
    rintro e w6 ⟨rfl, hbel6⟩
    have B6 := hid (below_next B5.out hbel6)
    clear hbel6
    go_wp2_with fail
    go_ret
    exact ⟨rfl, B6.out⟩

set_option maxRecDepth 100000 in
set_option maxHeartbeats 2000000 in
theorem con_b2_lo (F : Interp) (a : Option Addr) (len cap : Nat) (lt quiet : Int) (z : Nat → Int) (w : World) (hF : F.answers w.tape) (hlc : len ≤ cap) (hl : len ≤ 131072) (hq : 0 ≤ quiet) (hrow : TermRow w a len z) (h0 : 0 < len) (last : Int) (HZ : Hid (z (len - 1) = last)) (hown : (lt == last) = false) (HE : Hid ((z (len - 1) == lt) = false)) (hq1 : quiet < 1) (hv : content (some lt) len z quiet = false) :
    Calls Tryf.prog 4 #[.slice a len cap, .bool true, .int .u64 lt, .int .i64 quiet] w fun e w' => e = .returned (.bool true) ∧ Below w.heap.size w w' := by
  have R := hid hrow
  have HB := hid hv
  clear hrow hv
  go_enter Tryf.func4, Tryf.ntmps4
  go_wp2_with (first | (go_at_call 12; go_in))
  refine (nondec_any a len cap z _ (by omega) hlc R.out).mono ?_
  rintro e w1 ⟨r, rfl, n1, hw1⟩
  have B1 : Hid (Below w.heap.size w w1) := by rw [hw1]; exact drawn_below w n1
  clear hw1
  cases r with
  | false =>
    go_wp2_with fail
    go_ret
    exact ⟨rfl, B1.out⟩
  | true =>
    have R1 := hid (R.out.below B1.out)
    clear R
    go_wp2_with fail
    refine (leader_yes lt _).mono ?_
    rintro e w1' ⟨rfl, hcl, hbl⟩
    have L1 : Hid (Lead w1' (.pointer (some ⟨w1.heap.size, 0, none⟩)) (some lt)) := ⟨_, rfl, hcl⟩
    have B1' := hid (below_next B1.out hbl)
    have R1' := hid (R1.out.below hbl)
    clear hcl hbl B1 R1
    go_wp2_with fail
    refine (entries_any _ len cap z _ _ (by omega) hlc R1'.out).mono ?_
    rintro e w2 ⟨g, rfl, hg, hE, hb2⟩
    have B2 := hid (below_next B1'.out hb2)
    have R2 := hid (R1'.out.below hb2)
    have L2 := hid (L1.out.below hb2)
    have E2 := hid hE
    clear hE hb2 B1' R1' L1
    go_wp2_with fail
    refine (checker_any (.bool true) g len _).mono ?_
    rintro e w3 ⟨rfl, hc3, hb3⟩
    have B3 := hid (below_next B2.out hb3)
    have R3 := hid (R2.out.below hb3)
    have L3 := hid (L2.out.below hb3)
    have C3 := hid (chk_mk E2.out hb3 hc3)
    clear E2 B2 R2 L2 hb3 hc3
    have F3 : Hid (F.answers w3.tape) := by rw [Hid, B3.out.tape]; exact hF
    go_wp2_with fail
    refine (zl_any F _ (some lt) _ len z quiet _ F3.out (by omega) hq C3.out L3.out).mono ?_
    rw [HB.out]
    rintro e w4 ⟨b4, s4, rfl, hb4, hh4, hbel4⟩
    have B4 := hid (below_next B3.out hbel4)
    have R4 := hid (R3.out.below hbel4)
    have L4 := hid (L3.out.below hbel4)
    have C4 := hid (C3.out.below hbel4)
    have F4 : Hid (F.answers w4.tape) := by rw [Hid, B4.out.tape]; exact hF
    have hp4 := viol_cell hh4
    clear hh4
    clear hbel4 B3 C3 F3 L3 R3
    go_wp2_with (go_at_call 11; refine (property_any _ _ _ hp4).mono ?_; rintro e _ ⟨rfl, rfl⟩)
    clear hp4
    refine (zl_any F _ (some lt) _ len z _ _ F4.out (by omega) (by omega) C4.out L4.out).mono ?_
    rw [content_at lt _ z _ (by omega)]
    rintro e w5 ⟨b5, s5, rfl, hb5, hh5, hbel5⟩
    have B5 := hid (below_next B4.out hbel5)
    have R5 := hid (R4.out.below hbel5)
    have L5 := hid (L4.out.below hbel5)
    have C5 := hid (C4.out.below hbel5)
    have F5 : Hid (F.answers w5.tape) := by rw [Hid, B5.out.tape]; exact hF
    have hp5 := viol_cell hh5
    clear hh5
    clear hbel5 B4 C4 F4 L4 R4
    obtain ⟨b, off, rfl, hck, ht⟩ := cell_row R5.out h0
    rw [HZ.out] at hck
    have i1 : (0 : Int) ≤ (len : Int) - 1 := by omega
    have i2 : (len : Int) - 1 < (len : Int) := by omega
    go_wp2_with (go_at_call 11; refine (property_any _ _ _ hp5).mono ?_; rintro e _ ⟨rfl, rfl⟩)
    refine (zl_any F _ (some lt) _ len z _ _ F5.out (by omega) (by omega) C5.out L5.out).mono ?_
    rw [content_last lt _ z _ (by omega), HE.out]
    rintro e w6 ⟨b6, s6, rfl, hb6, hh6, hbel6⟩
    have B6 := hid (below_next B5.out hbel6)
    clear hbel6
    go_wp2_with fail
    go_ret
    exact ⟨rfl, B6.out⟩

set_option maxRecDepth 100000 in
set_option maxHeartbeats 2000000 in
theorem con_none_zero_hi (F : Interp) (a : Option Addr) (cap : Nat) (lt quiet : Int) (z : Nat → Int) (w : World) (hF : F.answers w.tape) (hlc : 0 ≤ cap) (hl : 0 ≤ 131072) (hq : 0 ≤ quiet) (hrow : TermRow w a 0 z)  (hq1 : 1 ≤ quiet) (hv : content none 0 z quiet = false) :
    Calls Tryf.prog 4 #[.slice a 0 cap, .bool false, .int .u64 lt, .int .i64 quiet] w fun e w' => e = .returned (.bool true) ∧ Below w.heap.size w w' := by
  have R := hid hrow
  have HB := hid hv
  clear hrow hv
  go_enter Tryf.func4, Tryf.ntmps4
  go_wp2_with (first | (go_at_call 12; go_in))
  refine (nondec_any a 0 cap z _ (by omega) hlc R.out).mono ?_
  rintro e w1 ⟨r, rfl, n1, hw1⟩
  have B1 : Hid (Below w.heap.size w w1) := by rw [hw1]; exact drawn_below w n1
  clear hw1
  cases r with
  | false =>
    go_wp2_with fail
    go_ret
    exact ⟨rfl, B1.out⟩
  | true =>
    have R1 := hid (R.out.below B1.out)
    clear R
    go_wp2_with fail
    refine (leader_no lt _).mono ?_
    rintro e w1' ⟨rfl, hw1'⟩
    have L1 : Hid (Lead w1' (.pointer none) none) := rfl
    have B1' : Hid (Below w.heap.size w w1') := by rw [hw1']; exact B1
    have R1' : Hid (TermRow w1' a 0 z) := by rw [hw1']; exact R1
    clear hw1' B1 R1
    go_wp2_with fail
    refine (entries_any _ 0 cap z _ _ (by omega) hlc R1'.out).mono ?_
    rintro e w2 ⟨g, rfl, hg, hE, hb2⟩
    have B2 := hid (below_next B1'.out hb2)
    have R2 := hid (R1'.out.below hb2)
    have L2 := hid (L1.out.below hb2)
    have E2 := hid hE
    clear hE hb2 B1' R1' L1
    go_wp2_with fail
    refine (checker_any (.bool true) g 0 _).mono ?_
    rintro e w3 ⟨rfl, hc3, hb3⟩
    have B3 := hid (below_next B2.out hb3)
    have R3 := hid (R2.out.below hb3)
    have L3 := hid (L2.out.below hb3)
    have C3 := hid (chk_mk E2.out hb3 hc3)
    clear E2 B2 R2 L2 hb3 hc3
    have F3 : Hid (F.answers w3.tape) := by rw [Hid, B3.out.tape]; exact hF
    go_wp2_with fail
    refine (zl_any F _ none _ 0 z quiet _ F3.out (by omega) hq C3.out L3.out).mono ?_
    rw [HB.out]
    rintro e w4 ⟨b4, s4, rfl, hb4, hh4, hbel4⟩
    have B4 := hid (below_next B3.out hbel4)
    have R4 := hid (R3.out.below hbel4)
    have L4 := hid (L3.out.below hbel4)
    have C4 := hid (C3.out.below hbel4)
    have F4 : Hid (F.answers w4.tape) := by rw [Hid, B4.out.tape]; exact hF
    have hp4 := viol_cell hh4
    clear hh4
    clear hbel4 B3 C3 F3 L3 R3
    go_wp2_with (go_at_call 11; refine (property_any _ _ _ hp4).mono ?_; rintro e _ ⟨rfl, rfl⟩)
    clear hp4
    refine (zl_any F _ none _ 0 z _ _ F4.out (by omega) (by omega) C4.out L4.out).mono ?_
    rw [content_none]
    rintro e w5 ⟨b5, s5, rfl, hb5, hh5, hbel5⟩
    have B5 := hid (below_next B4.out hbel5)
    have R5 := hid (R4.out.below hbel5)
    have L5 := hid (L4.out.below hbel5)
    have C5 := hid (C4.out.below hbel5)
    have F5 : Hid (F.answers w5.tape) := by rw [Hid, B5.out.tape]; exact hF
    have hp5 := viol_cell hh5
    clear hh5
    clear hbel5 B4 C4 F4 L4 R4
    go_wp2_with (go_at_call 11; refine (property_any _ _ _ hp5).mono ?_; rintro e _ ⟨rfl, rfl⟩)
    go_ret
    exact ⟨rfl, B5.out⟩

set_option maxRecDepth 100000 in
set_option maxHeartbeats 2000000 in
theorem con_none_pos_hi (F : Interp) (a : Option Addr) (len cap : Nat) (lt quiet : Int) (z : Nat → Int) (w : World) (hF : F.answers w.tape) (hlc : len ≤ cap) (hl : len ≤ 131072) (hq : 0 ≤ quiet) (hrow : TermRow w a len z) (h0 : 0 < len) (hq1 : 1 ≤ quiet) (hv : content none len z quiet = false) :
    Calls Tryf.prog 4 #[.slice a len cap, .bool false, .int .u64 lt, .int .i64 quiet] w fun e w' => e = .returned (.bool true) ∧ Below w.heap.size w w' := by
  have R := hid hrow
  have HB := hid hv
  clear hrow hv
  go_enter Tryf.func4, Tryf.ntmps4
  go_wp2_with (first | (go_at_call 12; go_in))
  refine (nondec_any a len cap z _ (by omega) hlc R.out).mono ?_
  rintro e w1 ⟨r, rfl, n1, hw1⟩
  have B1 : Hid (Below w.heap.size w w1) := by rw [hw1]; exact drawn_below w n1
  clear hw1
  cases r with
  | false =>
    go_wp2_with fail
    go_ret
    exact ⟨rfl, B1.out⟩
  | true =>
    have R1 := hid (R.out.below B1.out)
    clear R
    go_wp2_with fail
    refine (leader_no lt _).mono ?_
    rintro e w1' ⟨rfl, hw1'⟩
    have L1 : Hid (Lead w1' (.pointer none) none) := rfl
    have B1' : Hid (Below w.heap.size w w1') := by rw [hw1']; exact B1
    have R1' : Hid (TermRow w1' a len z) := by rw [hw1']; exact R1
    clear hw1' B1 R1
    go_wp2_with fail
    refine (entries_any _ len cap z _ _ (by omega) hlc R1'.out).mono ?_
    rintro e w2 ⟨g, rfl, hg, hE, hb2⟩
    have B2 := hid (below_next B1'.out hb2)
    have R2 := hid (R1'.out.below hb2)
    have L2 := hid (L1.out.below hb2)
    have E2 := hid hE
    clear hE hb2 B1' R1' L1
    go_wp2_with fail
    refine (checker_any (.bool true) g len _).mono ?_
    rintro e w3 ⟨rfl, hc3, hb3⟩
    have B3 := hid (below_next B2.out hb3)
    have R3 := hid (R2.out.below hb3)
    have L3 := hid (L2.out.below hb3)
    have C3 := hid (chk_mk E2.out hb3 hc3)
    clear E2 B2 R2 L2 hb3 hc3
    have F3 : Hid (F.answers w3.tape) := by rw [Hid, B3.out.tape]; exact hF
    go_wp2_with fail
    refine (zl_any F _ none _ len z quiet _ F3.out (by omega) hq C3.out L3.out).mono ?_
    rw [HB.out]
    rintro e w4 ⟨b4, s4, rfl, hb4, hh4, hbel4⟩
    have B4 := hid (below_next B3.out hbel4)
    have R4 := hid (R3.out.below hbel4)
    have L4 := hid (L3.out.below hbel4)
    have C4 := hid (C3.out.below hbel4)
    have F4 : Hid (F.answers w4.tape) := by rw [Hid, B4.out.tape]; exact hF
    have hp4 := viol_cell hh4
    clear hh4
    clear hbel4 B3 C3 F3 L3 R3
    go_wp2_with (go_at_call 11; refine (property_any _ _ _ hp4).mono ?_; rintro e _ ⟨rfl, rfl⟩)
    clear hp4
    refine (zl_any F _ none _ len z _ _ F4.out (by omega) (by omega) C4.out L4.out).mono ?_
    rw [content_none]
    rintro e w5 ⟨b5, s5, rfl, hb5, hh5, hbel5⟩
    have B5 := hid (below_next B4.out hbel5)
    have R5 := hid (R4.out.below hbel5)
    have L5 := hid (L4.out.below hbel5)
    have C5 := hid (C4.out.below hbel5)
    have F5 : Hid (F.answers w5.tape) := by rw [Hid, B5.out.tape]; exact hF
    have hp5 := viol_cell hh5
    clear hh5
    clear hbel5 B4 C4 F4 L4 R4
    go_wp2_with (go_at_call 11; refine (property_any _ _ _ hp5).mono ?_; rintro e _ ⟨rfl, rfl⟩)
    refine (zl_any F _ none _ len z _ _ F5.out (by omega) (by omega) C5.out L5.out).mono ?_
    rw [content_none]
    rintro e w6 ⟨b6, s6, rfl, hb6, hh6, hbel6⟩
    have B6 := hid (below_next B5.out hbel6)
    clear hbel6
    go_wp2_with fail
    go_ret
    exact ⟨rfl, B6.out⟩

set_option maxRecDepth 100000 in
set_option maxHeartbeats 2000000 in
theorem con_some_zero_hi (F : Interp) (a : Option Addr) (cap : Nat) (lt quiet : Int) (z : Nat → Int) (w : World) (hF : F.answers w.tape) (hlc : 0 ≤ cap) (hl : 0 ≤ 131072) (hq : 0 ≤ quiet) (hrow : TermRow w a 0 z)  (hq1 : 1 ≤ quiet) (hv : content (some lt) 0 z quiet = false) :
    Calls Tryf.prog 4 #[.slice a 0 cap, .bool true, .int .u64 lt, .int .i64 quiet] w fun e w' => e = .returned (.bool true) ∧ Below w.heap.size w w' := by
  have R := hid hrow
  have HB := hid hv
  clear hrow hv
  go_enter Tryf.func4, Tryf.ntmps4
  go_wp2_with (first | (go_at_call 12; go_in))
  refine (nondec_any a 0 cap z _ (by omega) hlc R.out).mono ?_
  rintro e w1 ⟨r, rfl, n1, hw1⟩
  have B1 : Hid (Below w.heap.size w w1) := by rw [hw1]; exact drawn_below w n1
  clear hw1
  cases r with
  | false =>
    go_wp2_with fail
    go_ret
    exact ⟨rfl, B1.out⟩
  | true =>
    have R1 := hid (R.out.below B1.out)
    clear R
    go_wp2_with fail
    refine (leader_yes lt _).mono ?_
    rintro e w1' ⟨rfl, hcl, hbl⟩
    have L1 : Hid (Lead w1' (.pointer (some ⟨w1.heap.size, 0, none⟩)) (some lt)) := ⟨_, rfl, hcl⟩
    have B1' := hid (below_next B1.out hbl)
    have R1' := hid (R1.out.below hbl)
    clear hcl hbl B1 R1
    go_wp2_with fail
    refine (entries_any _ 0 cap z _ _ (by omega) hlc R1'.out).mono ?_
    rintro e w2 ⟨g, rfl, hg, hE, hb2⟩
    have B2 := hid (below_next B1'.out hb2)
    have R2 := hid (R1'.out.below hb2)
    have L2 := hid (L1.out.below hb2)
    have E2 := hid hE
    clear hE hb2 B1' R1' L1
    go_wp2_with fail
    refine (checker_any (.bool true) g 0 _).mono ?_
    rintro e w3 ⟨rfl, hc3, hb3⟩
    have B3 := hid (below_next B2.out hb3)
    have R3 := hid (R2.out.below hb3)
    have L3 := hid (L2.out.below hb3)
    have C3 := hid (chk_mk E2.out hb3 hc3)
    clear E2 B2 R2 L2 hb3 hc3
    have F3 : Hid (F.answers w3.tape) := by rw [Hid, B3.out.tape]; exact hF
    go_wp2_with fail
    refine (zl_any F _ (some lt) _ 0 z quiet _ F3.out (by omega) hq C3.out L3.out).mono ?_
    rw [HB.out]
    rintro e w4 ⟨b4, s4, rfl, hb4, hh4, hbel4⟩
    have B4 := hid (below_next B3.out hbel4)
    have R4 := hid (R3.out.below hbel4)
    have L4 := hid (L3.out.below hbel4)
    have C4 := hid (C3.out.below hbel4)
    have F4 : Hid (F.answers w4.tape) := by rw [Hid, B4.out.tape]; exact hF
    have hp4 := viol_cell hh4
    clear hh4
    clear hbel4 B3 C3 F3 L3 R3
    go_wp2_with (go_at_call 11; refine (property_any _ _ _ hp4).mono ?_; rintro e _ ⟨rfl, rfl⟩)
    clear hp4
    refine (zl_any F _ (some lt) _ 0 z _ _ F4.out (by omega) (by omega) C4.out L4.out).mono ?_
    rw [content_at lt _ z _ (by omega)]
    rintro e w5 ⟨b5, s5, rfl, hb5, hh5, hbel5⟩
    have B5 := hid (below_next B4.out hbel5)
    have R5 := hid (R4.out.below hbel5)
    have L5 := hid (L4.out.below hbel5)
    have C5 := hid (C4.out.below hbel5)
    have F5 : Hid (F.answers w5.tape) := by rw [Hid, B5.out.tape]; exact hF
    have hp5 := viol_cell hh5
    clear hh5
    clear hbel5 B4 C4 F4 L4 R4
    go_wp2_with (go_at_call 11; refine (property_any _ _ _ hp5).mono ?_; rintro e _ ⟨rfl, rfl⟩)
    go_ret
    exact ⟨rfl, B5.out⟩

set_option maxRecDepth 100000 in
set_option maxHeartbeats 2000000 in
theorem con_b1_hi (F : Interp) (a : Option Addr) (len cap : Nat) (lt quiet : Int) (z : Nat → Int) (w : World) (hF : F.answers w.tape) (hlc : len ≤ cap) (hl : len ≤ 131072) (hq : 0 ≤ quiet) (hrow : TermRow w a len z) (h0 : 0 < len) (last : Int) (HZ : Hid (z (len - 1) = last)) (hown : (lt == last) = true) (HE : Hid ((z (len - 1) == lt) = true)) (hq1 : 1 ≤ quiet) (hv : content (some lt) len z quiet = false) :
    Calls Tryf.prog 4 #[.slice a len cap, .bool true, .int .u64 lt, .int .i64 quiet] w fun e w' => e = .returned (.bool true) ∧ Below w.heap.size w w' := by
  have R := hid hrow
  have HB := hid hv
  clear hrow hv
  go_enter Tryf.func4, Tryf.ntmps4
  go_wp2_with (first | (go_at_call 12; go_in))
  refine (nondec_any a len cap z _ (by omega) hlc R.out).mono ?_
  rintro e w1 ⟨r, rfl, n1, hw1⟩
  have B1 : Hid (Below w.heap.size w w1) := by rw [hw1]; exact drawn_below w n1
  clear hw1
  cases r with
  | false =>
    go_wp2_with fail
    go_ret
    exact ⟨rfl, B1.out⟩
  | true =>
    have R1 := hid (R.out.below B1.out)
    clear R
    go_wp2_with fail
    refine (leader_yes lt _).mono ?_
    rintro e w1' ⟨rfl, hcl, hbl⟩
    have L1 : Hid (Lead w1' (.pointer (some ⟨w1.heap.size, 0, none⟩)) (some lt)) := ⟨_, rfl, hcl⟩
    have B1' := hid (below_next B1.out hbl)
    have R1' := hid (R1.out.below hbl)
    clear hcl hbl B1 R1
    go_wp2_with fail
    refine (entries_any _ len cap z _ _ (by omega) hlc R1'.out).mono ?_
    rintro e w2 ⟨g, rfl, hg, hE, hb2⟩
    have B2 := hid (below_next B1'.out hb2)
    have R2 := hid (R1'.out.below hb2)
    have L2 := hid (L1.out.below hb2)
    have E2 := hid hE
    clear hE hb2 B1' R1' L1
    go_wp2_with fail
    refine (checker_any (.bool true) g len _).mono ?_
    rintro e w3 ⟨rfl, hc3, hb3⟩
    have B3 := hid (below_next B2.out hb3)
    have R3 := hid (R2.out.below hb3)
    have L3 := hid (L2.out.below hb3)
    have C3 := hid (chk_mk E2.out hb3 hc3)
    clear E2 B2 R2 L2 hb3 hc3
    have F3 : Hid (F.answers w3.tape) := by rw [Hid, B3.out.tape]; exact hF
    go_wp2_with fail
    refine (zl_any F _ (some lt) _ len z quiet _ F3.out (by omega) hq C3.out L3.out).mono ?_
    rw [HB.out]
    rintro e w4 ⟨b4, s4, rfl, hb4, hh4, hbel4⟩
    have B4 := hid (below_next B3.out hbel4)
    have R4 := hid (R3.out.below hbel4)
    have L4 := hid (L3.out.below hbel4)
    have C4 := hid (C3.out.below hbel4)
    have F4 : Hid (F.answers w4.tape) := by rw [Hid, B4.out.tape]; exact hF
    have hp4 := viol_cell hh4
    clear hh4
    clear hbel4 B3 C3 F3 L3 R3
    go_wp2_with (go_at_call 11; refine (property_any _ _ _ hp4).mono ?_; rintro e _ ⟨rfl, rfl⟩)
    clear hp4
    refine (zl_any F _ (some lt) _ len z _ _ F4.out (by omega) (by omega) C4.out L4.out).mono ?_
    rw [content_at lt _ z _ (by omega)]
    rintro e w5 ⟨b5, s5, rfl, hb5, hh5, hbel5⟩
    have B5 := hid (below_next B4.out hbel5)
    have R5 := hid (R4.out.below hbel5)
    have L5 := hid (L4.out.below hbel5)
    have C5 := hid (C4.out.below hbel5)
    have F5 : Hid (F.answers w5.tape) := by rw [Hid, B5.out.tape]; exact hF
    have hp5 := viol_cell hh5
    clear hh5
    clear hbel5 B4 C4 F4 L4 R4
    obtain ⟨b, off, rfl, hck, ht⟩ := cell_row R5.out h0
    rw [HZ.out] at hck
    have i1 : (0 : Int) ≤ (len : Int) - 1 := by omega
    have i2 : (len : Int) - 1 < (len : Int) := by omega
    go_wp2_with (go_at_call 11; refine (property_any _ _ _ hp5).mono ?_; rintro e _ ⟨rfl, rfl⟩)
    refine (zl_any F _ (some lt) _ len z _ _ F5.out (by omega) (by omega) C5.out L5.out).mono ?_
    rw [content_last lt _ z _ (by omega), HE.out]
    rintro e w6 ⟨rfl, hbel6⟩
    have B6 := hid (below_next B5.out hbel6)
    clear hbel6
    go_wp2_with fail
    go_ret
    exact ⟨rfl, B6.out⟩

set_option maxRecDepth 100000 in
set_option maxHeartbeats 2000000 in
theorem con_b2_hi (F : Interp) (a : Option Addr) (len cap : Nat) (lt quiet : Int) (z : Nat → Int) (w : World) (hF : F.answers w.tape) (hlc : len ≤ cap) (hl : len ≤ 131072) (hq : 0 ≤ quiet) (hrow : TermRow w a len z) (h0 : 0 < len) (last : Int) (HZ : Hid (z (len - 1) = last)) (hown : (lt == last) = false) (HE : Hid ((z (len - 1) == lt) = false)) (hq1 : 1 ≤ quiet) (hv : content (some lt) len z quiet = false) :
    Calls Tryf.prog 4 #[.slice a len cap, .bool true, .int .u64 lt, .int .i64 quiet] w fun e w' => e = .returned (.bool true) ∧ Below w.heap.size w w' := by
  have R := hid hrow
  have HB := hid hv
  clear hrow hv
  go_enter Tryf.func4, Tryf.ntmps4
  go_wp2_with (first | (go_at_call 12; go_in))
  refine (nondec_any a len cap z _ (by omega) hlc R.out).mono ?_
  rintro e w1 ⟨r, rfl, n1, hw1⟩
  have B1 : Hid (Below w.heap.size w w1) := by rw [hw1]; exact drawn_below w n1
  clear hw1
  cases r with
  | false =>
    go_wp2_with fail
    go_ret
    exact ⟨rfl, B1.out⟩
  | true =>
    have R1 := hid (R.out.below B1.out)
    clear R
    go_wp2_with fail
    refine (leader_yes lt _).mono ?_
    rintro e w1' ⟨rfl, hcl, hbl⟩
    have L1 : Hid (Lead w1' (.pointer (some ⟨w1.heap.size, 0, none⟩)) (some lt)) := ⟨_, rfl, hcl⟩
    have B1' := hid (below_next B1.out hbl)
    have R1' := hid (R1.out.below hbl)
    clear hcl hbl B1 R1
    go_wp2_with fail
    refine (entries_any _ len cap z _ _ (by omega) hlc R1'.out).mono ?_
    rintro e w2 ⟨g, rfl, hg, hE, hb2⟩
    have B2 := hid (below_next B1'.out hb2)
    have R2 := hid (R1'.out.below hb2)
    have L2 := hid (L1.out.below hb2)
    have E2 := hid hE
    clear hE hb2 B1' R1' L1
    go_wp2_with fail
    refine (checker_any (.bool true) g len _).mono ?_
    rintro e w3 ⟨rfl, hc3, hb3⟩
    have B3 := hid (below_next B2.out hb3)
    have R3 := hid (R2.out.below hb3)
    have L3 := hid (L2.out.below hb3)
    have C3 := hid (chk_mk E2.out hb3 hc3)
    clear E2 B2 R2 L2 hb3 hc3
    have F3 : Hid (F.answers w3.tape) := by rw [Hid, B3.out.tape]; exact hF
    go_wp2_with fail
    refine (zl_any F _ (some lt) _ len z quiet _ F3.out (by omega) hq C3.out L3.out).mono ?_
    rw [HB.out]
    rintro e w4 ⟨b4, s4, rfl, hb4, hh4, hbel4⟩
    have B4 := hid (below_next B3.out hbel4)
    have R4 := hid (R3.out.below hbel4)
    have L4 := hid (L3.out.below hbel4)
    have C4 := hid (C3.out.below hbel4)
    have F4 : Hid (F.answers w4.tape) := by rw [Hid, B4.out.tape]; exact hF
    have hp4 := viol_cell hh4
    clear hh4
    clear hbel4 B3 C3 F3 L3 R3
    go_wp2_with (go_at_call 11; refine (property_any _ _ _ hp4).mono ?_; rintro e _ ⟨rfl, rfl⟩)
    clear hp4
    refine (zl_any F _ (some lt) _ len z _ _ F4.out (by omega) (by omega) C4.out L4.out).mono ?_
    rw [content_at lt _ z _ (by omega)]
    rintro e w5 ⟨b5, s5, rfl, hb5, hh5, hbel5⟩
    have B5 := hid (below_next B4.out hbel5)
    have R5 := hid (R4.out.below hbel5)
    have L5 := hid (L4.out.below hbel5)
    have C5 := hid (C4.out.below hbel5)
    have F5 : Hid (F.answers w5.tape) := by rw [Hid, B5.out.tape]; exact hF
    have hp5 := viol_cell hh5
    clear hh5
    clear hbel5 B4 C4 F4 L4 R4
    obtain ⟨b, off, rfl, hck, ht⟩ := cell_row R5.out h0
    rw [HZ.out] at hck
    have i1 : (0 : Int) ≤ (len : Int) - 1 := by omega
    have i2 : (len : Int) - 1 < (len : Int) := by omega
    go_wp2_with (go_at_call 11; refine (property_any _ _ _ hp5).mono ?_; rintro e _ ⟨rfl, rfl⟩)
    refine (zl_any F _ (some lt) _ len z _ _ F5.out (by omega) (by omega) C5.out L5.out).mono ?_
    rw [content_last lt _ z _ (by omega), HE.out]
    rintro e w6 ⟨b6, s6, rfl, hb6, hh6, hbel6⟩
    have B6 := hid (below_next B5.out hbel6)
    clear hbel6
    go_wp2_with fail
    go_ret
    exact ⟨rfl, B6.out⟩

set_option maxRecDepth 100000 in
set_option maxHeartbeats 2000000 in
theorem con_a0 (F : Interp) (a : Option Addr) (len cap : Nat) (lt quiet : Int) (z : Nat → Int) (w : World) (hF : F.answers w.tape) (hlc : len ≤ cap) (hl : len ≤ 131072) (hq : 0 ≤ quiet) (hrow : TermRow w a len z) (h0 : 0 < len) (last : Int) (HZ : Hid (z (len - 1) = last)) (hown : (lt == last) = true) (HE : Hid ((z (len - 1) == lt) = true)) (hqn : quiet < len) (hq1 : quiet < 1) (hv : content (some lt) len z quiet = true) :
    Calls Tryf.prog 4 #[.slice a len cap, .bool true, .int .u64 lt, .int .i64 quiet] w fun e w' => e = .returned (.bool true) ∧ Below w.heap.size w w' := by
  have R := hid hrow
  have HB := hid hv
  clear hrow hv
  go_enter Tryf.func4, Tryf.ntmps4
  go_wp2_with (first | (go_at_call 12; go_in))
  refine (nondec_any a len cap z _ (by omega) hlc R.out).mono ?_
  rintro e w1 ⟨r, rfl, n1, hw1⟩
  have B1 : Hid (Below w.heap.size w w1) := by rw [hw1]; exact drawn_below w n1
  clear hw1
  cases r with
  | false =>
    go_wp2_with fail
    go_ret
    exact ⟨rfl, B1.out⟩
  | true =>
    have R1 := hid (R.out.below B1.out)
    clear R
    go_wp2_with fail
    refine (leader_yes lt _).mono ?_
    rintro e w1' ⟨rfl, hcl, hbl⟩
    have L1 : Hid (Lead w1' (.pointer (some ⟨w1.heap.size, 0, none⟩)) (some lt)) := ⟨_, rfl, hcl⟩
    have B1' := hid (below_next B1.out hbl)
    have R1' := hid (R1.out.below hbl)
    clear hcl hbl B1 R1
    go_wp2_with fail
    refine (entries_any _ len cap z _ _ (by omega) hlc R1'.out).mono ?_
    rintro e w2 ⟨g, rfl, hg, hE, hb2⟩
    have B2 := hid (below_next B1'.out hb2)
    have R2 := hid (R1'.out.below hb2)
    have L2 := hid (L1.out.below hb2)
    have E2 := hid hE
    clear hE hb2 B1' R1' L1
    go_wp2_with fail
    refine (checker_any (.bool true) g len _).mono ?_
    rintro e w3 ⟨rfl, hc3, hb3⟩
    have B3 := hid (below_next B2.out hb3)
    have R3 := hid (R2.out.below hb3)
    have L3 := hid (L2.out.below hb3)
    have C3 := hid (chk_mk E2.out hb3 hc3)
    clear E2 B2 R2 L2 hb3 hc3
    have F3 : Hid (F.answers w3.tape) := by rw [Hid, B3.out.tape]; exact hF
    go_wp2_with fail
    refine (zl_any F _ (some lt) _ len z quiet _ F3.out (by omega) hq C3.out L3.out).mono ?_
    rw [HB.out]
    rintro e w4 ⟨rfl, hbel4⟩
    have B4 := hid (below_next B3.out hbel4)
    have R4 := hid (R3.out.below hbel4)
    have L4 := hid (L3.out.below hbel4)
    have C4 := hid (C3.out.below hbel4)
    have F4 : Hid (F.answers w4.tape) := by rw [Hid, B4.out.tape]; exact hF
    clear hbel4 B3 C3 F3 L3 R3
    go_wp2_with fail
    refine (zl_any F _ (some lt) _ len z _ _ F4.out (by omega) (by omega) C4.out L4.out).mono ?_
    rw [content_at lt _ z _ (by omega)]
    rintro e w5 ⟨b5, s5, rfl, hb5, hh5, hbel5⟩
    have B5 := hid (below_next B4.out hbel5)
    have R5 := hid (R4.out.below hbel5)
    have L5 := hid (L4.out.below hbel5)
    have C5 := hid (C4.out.below hbel5)
    have F5 : Hid (F.answers w5.tape) := by rw [Hid, B5.out.tape]; exact hF
    have hp5 := viol_cell hh5
    clear hh5
    clear hbel5 B4 C4 F4 L4 R4
    obtain ⟨b, off, rfl, hck, ht⟩ := cell_row R5.out h0
    rw [HZ.out] at hck
    have i1 : (0 : Int) ≤ (len : Int) - 1 := by omega
    have i2 : (len : Int) - 1 < (len : Int) := by omega
    go_wp2_with (go_at_call 11; refine (property_any _ _ _ hp5).mono ?_; rintro e _ ⟨rfl, rfl⟩)
    refine (zl_any F _ (some lt) _ len z _ _ F5.out (by omega) (by omega) C5.out L5.out).mono ?_
    rw [content_last lt _ z _ (by omega), HE.out]
    rintro e w6 ⟨rfl, hbel6⟩
    have B6 := hid (below_next B5.out hbel6)
    clear hbel6
    go_wp2_with fail
    go_ret
    exact ⟨rfl, B6.out⟩

set_option maxRecDepth 100000 in
set_option maxHeartbeats 2000000 in
theorem con_a1 (F : Interp) (a : Option Addr) (len cap : Nat) (lt quiet : Int) (z : Nat → Int) (w : World) (hF : F.answers w.tape) (hlc : len ≤ cap) (hl : len ≤ 131072) (hq : 0 ≤ quiet) (hrow : TermRow w a len z) (h0 : 0 < len) (last : Int) (HZ : Hid (z (len - 1) = last)) (hown : (lt == last) = true) (HE : Hid ((z (len - 1) == lt) = true)) (hqn : quiet < len) (hq1 : 1 ≤ quiet) (hv : content (some lt) len z quiet = true) :
    Calls Tryf.prog 4 #[.slice a len cap, .bool true, .int .u64 lt, .int .i64 quiet] w fun e w' => e = .returned (.bool true) ∧ Below w.heap.size w w' := by
  have R := hid hrow
  have HB := hid hv
  clear hrow hv
  go_enter Tryf.func4, Tryf.ntmps4
  go_wp2_with (first | (go_at_call 12; go_in))
  refine (nondec_any a len cap z _ (by omega) hlc R.out).mono ?_
  rintro e w1 ⟨r, rfl, n1, hw1⟩
  have B1 : Hid (Below w.heap.size w w1) := by rw [hw1]; exact drawn_below w n1
  clear hw1
  cases r with
  | false =>
    go_wp2_with fail
    go_ret
    exact ⟨rfl, B1.out⟩
  | true =>
    have R1 := hid (R.out.below B1.out)
    clear R
    go_wp2_with fail
    refine (leader_yes lt _).mono ?_
    rintro e w1' ⟨rfl, hcl, hbl⟩
    have L1 : Hid (Lead w1' (.pointer (some ⟨w1.heap.size, 0, none⟩)) (some lt)) := ⟨_, rfl, hcl⟩
    have B1' := hid (below_next B1.out hbl)
    have R1' := hid (R1.out.below hbl)
    clear hcl hbl B1 R1
    go_wp2_with fail
    refine (entries_any _ len cap z _ _ (by omega) hlc R1'.out).mono ?_
    rintro e w2 ⟨g, rfl, hg, hE, hb2⟩
    have B2 := hid (below_next B1'.out hb2)
    have R2 := hid (R1'.out.below hb2)
    have L2 := hid (L1.out.below hb2)
    have E2 := hid hE
    clear hE hb2 B1' R1' L1
    go_wp2_with fail
    refine (checker_any (.bool true) g len _).mono ?_
    rintro e w3 ⟨rfl, hc3, hb3⟩
    have B3 := hid (below_next B2.out hb3)
    have R3 := hid (R2.out.below hb3)
    have L3 := hid (L2.out.below hb3)
    have C3 := hid (chk_mk E2.out hb3 hc3)
    clear E2 B2 R2 L2 hb3 hc3
    have F3 : Hid (F.answers w3.tape) := by rw [Hid, B3.out.tape]; exact hF
    go_wp2_with fail
    refine (zl_any F _ (some lt) _ len z quiet _ F3.out (by omega) hq C3.out L3.out).mono ?_
    rw [HB.out]
    rintro e w4 ⟨rfl, hbel4⟩
    have B4 := hid (below_next B3.out hbel4)
    have R4 := hid (R3.out.below hbel4)
    have L4 := hid (L3.out.below hbel4)
    have C4 := hid (C3.out.below hbel4)
    have F4 : Hid (F.answers w4.tape) := by rw [Hid, B4.out.tape]; exact hF
    clear hbel4 B3 C3 F3 L3 R3
    go_wp2_with fail
    refine (zl_any F _ (some lt) _ len z _ _ F4.out (by omega) (by omega) C4.out L4.out).mono ?_
    rw [content_last lt _ z _ (by omega), HE.out]
    rintro e w5 ⟨rfl, hbel5⟩
    have B5 := hid (below_next B4.out hbel5)
    have R5 := hid (R4.out.below hbel5)
    have L5 := hid (L4.out.below hbel5)
    have C5 := hid (C4.out.below hbel5)
    have F5 : Hid (F.answers w5.tape) := by rw [Hid, B5.out.tape]; exact hF
    clear hbel5 B4 C4 F4 L4 R4
    go_wp2_with fail
    refine (zl_any F _ (some lt) _ len z _ _ F5.out (by omega) (by omega) C5.out L5.out).mono ?_
    rw [content_at lt _ z _ (by omega)]
    rintro e w6 ⟨b6, s6, rfl, hb6, hh6, hbel6⟩
    have B6 := hid (below_next B5.out hbel6)
    have R6 := hid (R5.out.below hbel6)
    have L6 := hid (L5.out.below hbel6)
    have C6 := hid (C5.out.below hbel6)
    have F6 : Hid (F.answers w6.tape) := by rw [Hid, B6.out.tape]; exact hF
    have hp6 := viol_cell hh6
    clear hh6
    clear hbel6 B5 C5 F5 L5 R5
    obtain ⟨b, off, rfl, hck, ht⟩ := cell_row R6.out h0
    rw [HZ.out] at hck
    have i1 : (0 : Int) ≤ (len : Int) - 1 := by omega
    have i2 : (len : Int) - 1 < (len : Int) := by omega
    go_wp2_with (go_at_call 11; refine (property_any _ _ _ hp6).mono ?_; rintro e _ ⟨rfl, rfl⟩)
    refine (zl_any F _ (some lt) _ len z _ _ F6.out (by omega) (by omega) C6.out L6.out).mono ?_
    rw [content_last lt _ z _ (by omega), HE.out]
    rintro e w7 ⟨rfl, hbel7⟩
    have B7 := hid (below_next B6.out hbel7)
    clear hbel7
    go_wp2_with fail
    go_ret
    exact ⟨rfl, B7.out⟩

theorem con_any (F : Interp) (a : Option Addr) (len cap : Nat) (present : Bool) (lt quiet : Int) (z : Nat → Int) (w : World) (hF : F.answers w.tape) (hlc : len ≤ cap) (hmax : len ≤ 9223372036854775807) (hrow : TermRow w a len z) :
    Calls Tryf.prog 4 #[.slice a len cap, .bool present, .int .u64 lt, .int .i64 quiet] w fun e w' => e = .returned (.bool true) ∧ Below w.heap.size w w' := by
  by_cases hs : 131072 < len ∨ quiet < 0
  · exact con_short a len cap present lt quiet w hmax hs
  · have hl : len ≤ 131072 := by omega
    have hq : 0 ≤ quiet := by omega
    cases present with
    | false =>
      by_cases h0 : len = 0
      · subst h0
        by_cases hq1 : 1 ≤ quiet
        · exact con_none_zero_hi F a cap lt quiet z w hF hlc hl hq hrow hq1 rfl
        · exact con_none_zero_lo F a cap lt quiet z w hF hlc hl hq hrow (by omega) rfl
      · by_cases hq1 : 1 ≤ quiet
        · exact con_none_pos_hi F a len cap lt quiet z w hF hlc hl hq hrow (by omega) hq1 rfl
        · exact con_none_pos_lo F a len cap lt quiet z w hF hlc hl hq hrow (by omega) (by omega) rfl
    | true =>
      by_cases h0 : len = 0
      · subst h0
        by_cases hq1 : 1 ≤ quiet
        · exact con_some_zero_hi F a cap lt quiet z w hF hlc hl hq hrow hq1 (content_at lt 0 z quiet (by omega))
        · exact con_some_zero_lo F a cap lt quiet z w hF hlc hl hq hrow (by omega) (content_at lt 0 z quiet (by omega))
      · have h0' : 0 < len := by omega
        cases he : z (len - 1) == lt with
        | false =>
          have hown : (lt == z (len - 1)) = false := by
            rw [beq_eq_false_iff_ne] at he ⊢
            exact fun e => he e.symm
          have hv : content (some lt) len z quiet = false := by simp [content, he]
          by_cases hq1 : 1 ≤ quiet
          · exact con_b2_hi F a len cap lt quiet z w hF hlc hl hq hrow h0' _ (hid rfl) hown (hid he) hq1 hv
          · exact con_b2_lo F a len cap lt quiet z w hF hlc hl hq hrow h0' _ (hid rfl) hown (hid he) (by omega) hv
        | true =>
          have hown : (lt == z (len - 1)) = true := by
            rw [beq_iff_eq] at he ⊢
            exact he.symm
          by_cases hqn : quiet < len
          · have hv : content (some lt) len z quiet = true := by rw [content_last lt len z quiet hqn, he]
            by_cases hq1 : 1 ≤ quiet
            · exact con_a1 F a len cap lt quiet z w hF hlc hl hq hrow h0' _ (hid rfl) hown (hid he) hqn hq1 hv
            · exact con_a0 F a len cap lt quiet z w hF hlc hl hq hrow h0' _ (hid rfl) hown (hid he) hqn (by omega) hv
          · by_cases hq1 : 1 ≤ quiet
            · exact con_b1_hi F a len cap lt quiet z w hF hlc hl hq hrow h0' _ (hid rfl) hown (hid he) hq1 (content_at lt len z quiet (by omega))
            · exact con_b1_lo F a len cap lt quiet z w hF hlc hl hq hrow h0' _ (hid rfl) hown (hid he) (by omega) (content_at lt len z quiet (by omega))

end Go.Proofs.Qxb6613359aFmt
