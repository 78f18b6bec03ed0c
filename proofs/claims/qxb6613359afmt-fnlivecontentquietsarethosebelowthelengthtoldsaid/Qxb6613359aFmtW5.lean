import Derived.Test.Qxb6613359aFmtW4
namespace Go.Proofs.Qxb6613359aFmt
open Go.RowKit Go.Extern.Stop Go.Stop Go.Extern
set_option linter.unusedVariables false

theorem entries_plus (a : Option Addr) (len cap : Nat) (z : Nat → Int) (extra : Int) (hx : z len = extra) (w : World) (hlen : len ≤ 900000) (hlc : len ≤ cap) (hrow : TermRow w a len z) :
    Calls Tryf.prog 9 #[.slice a len cap, .int .u64 extra, .bool true] w fun e w' => ∃ g, e = .returned (.slice (some ⟨g, 0, none⟩) (len + 1) (len + 1)) ∧ w.heap.size ≤ g ∧ Ents g (len + 1) (len + 1) z w' ∧ Below w.heap.size w w' := by
  subst hx
  exact entries_add a len cap z w hlen hlc hrow

theorem content_at (lt : Int) (n : Nat) (z : Nat → Int) (q : Int) (h : (n : Int) ≤ q) : content (some lt) n z q = false := by
  simp [content]; intro; omega
theorem content_yes (lt : Int) (n : Nat) (z : Nat → Int) (q : Int) (hz : z n = lt) (h : q ≤ n) : content (some lt) (n + 1) z q = true := by
  simp [content, hz]; omega

/-- The terms with one more at their end. -/
def more (z : Nat → Int) (n : Nat) (lt : Int) : Nat → Int := fun i => if i = n then lt else z i
theorem more_at (z : Nat → Int) (n : Nat) (lt : Int) : more z n lt n = lt := by simp [more]
theorem TermRow.more {w : World} {a : Option Addr} {len : Nat} {z : Nat → Int} (h : TermRow w a len z) (lt : Int) : TermRow w a len (more z len lt) := by
  rcases h with h | ⟨b, off, h1, h2⟩
  · exact .inl h
  · exact .inr ⟨b, off, h1, fun i hi => by rw [h2 i hi]; simp [Qxb6613359aFmt.more, show ¬ i = len by omega]⟩

theorem cell_row {w : World} {a : Option Addr} {len : Nat} {z : Nat → Int} (h : TermRow w a len z) (hl : 0 < len) : ∃ b off, a = some ⟨b, off, none⟩ ∧ w.cell? ⟨b, off + (len - 1), none⟩ = some (.int .u64 (z (len - 1))) ∧ ((len : Int) - 1).toNat = len - 1 := by
  obtain ⟨b, off, h1, h2⟩ := h.get (by omega)
  exact ⟨b, off, h1, h2 (len - 1) (by omega), by omega⟩

set_option maxRecDepth 100000 in
set_option maxHeartbeats 1000000 in
/-- A leader that is behind the log: the law asks nothing. -/
theorem own_behind (F : Interp) (a : Option Addr) (len cap : Nat) (lt quiet last : Int) (z : Nat → Int) (w : World) (hlc : len ≤ cap) (hl : len ≤ 131072) (h0 : 0 < len) (hq : 0 ≤ quiet) (hrow : TermRow w a len z) (hz : z (len - 1) = last) (hlt : lt < last) :
    Calls Tryf.prog 3 #[.slice a len cap, .bool true, .int .u64 lt, .int .i64 quiet] w fun e w' => e = .returned (.bool true) ∧ Below w.heap.size w w' := by
  have R := hid hrow
  have HZ := hid hz
  clear hrow hz
  go_enter Tryf.func3, Tryf.ntmps3
  go_wp2_with (first | (go_at_call 5; go_in))
  refine (nondec_any a len cap z _ (by omega) hlc R.out).mono ?_
  rintro e w1 ⟨r, rfl, n1, hw1⟩
  have B1 : Hid (Below w.heap.size w w1) := by rw [hw1]; exact drawn_below w n1
  clear hw1
  cases r with
  | false =>
    go_wp2_with fail
    go_ret
    exact ⟨rfl, B1.out⟩
  | true =>
    obtain ⟨b, off, rfl, hck, ht⟩ := cell_row (R.out.below B1.out) h0
    rw [HZ.out] at hck
    clear R
    have i1 : (0 : Int) ≤ (len : Int) - 1 := by omega
    have i2 : (len : Int) - 1 < (len : Int) := by omega
    go_wp2_with fail
    go_ret
    exact ⟨rfl, B1.out⟩

set_option maxRecDepth 100000 in
set_option maxHeartbeats 2000000 in
theorem own_zero_le (F : Interp) (a : Option Addr) (cap : Nat) (lt quiet : Int) (z : Nat → Int) (w : World) (hF : F.answers w.tape) (hlc : 0 ≤ cap) (hl : 0 ≤ 131072) (hq : 0 ≤ quiet) (hrow : TermRow w a 0 z)  (hbf : content (some lt) 0 z quiet = false) (hqn : quiet ≤ 0) :
    Calls Tryf.prog 3 #[.slice a 0 cap, .bool true, .int .u64 lt, .int .i64 quiet] w fun e w' => e = .returned (.bool true) ∧ Below w.heap.size w w' := by
  have R := hid hrow
  have HB := hid hbf
  clear hrow hbf
  go_enter Tryf.func3, Tryf.ntmps3
  go_wp2_with (first | (go_at_call 5; go_in))
  refine (nondec_any a 0 cap z _ (by omega) hlc R.out).mono ?_
  rintro e w1 ⟨r, rfl, n1, hw1⟩
  have B1 : Hid (Below w.heap.size w w1) := by rw [hw1]; exact drawn_below w n1
  clear hw1
  cases r with
  | false =>
    go_wp2_with fail
    go_ret
    exact ⟨rfl, B1.out⟩
  | true =>
    have R1 := hid (R.out.below B1.out)
    clear R
    go_wp2_with fail
    refine (leader_yes lt _).mono ?_
    rintro e w1' ⟨rfl, hcl, hbl⟩
    have L1 : Hid (Lead w1' (.pointer (some ⟨w1.heap.size, 0, none⟩)) (some lt)) := ⟨_, rfl, hcl⟩
    have B1' := hid (below_next B1.out hbl)
    have R1' := hid (R1.out.below hbl)
    clear hcl hbl B1 R1
    go_wp2_with fail
    refine (entries_any _ 0 cap z _ _ (by omega) hlc R1'.out).mono ?_
    rintro e w2 ⟨g, rfl, hg, hE, hb2⟩
    have B2 := hid (below_next B1'.out hb2)
    have R2 := hid (R1'.out.below hb2)
    have L2 := hid (L1.out.below hb2)
    have E2 := hid hE
    clear hE hb2 B1' R1' L1
    go_wp2_with fail
    refine (checker_any (.bool true) g 0 _).mono ?_
    rintro e w3 ⟨rfl, hc3, hb3⟩
    have B3 := hid (below_next B2.out hb3)
    have R3 := hid (R2.out.below hb3)
    have L3 := hid (L2.out.below hb3)
    have C3 := hid (chk_mk E2.out hb3 hc3)
    clear E2 B2 R2 L2 hb3 hc3
    have F3 : Hid (F.answers w3.tape) := by rw [Hid, B3.out.tape]; exact hF
    go_wp2_with fail
    refine (zl_any F _ (some lt) _ 0 z quiet _ F3.out (by omega) hq C3.out L3.out).mono ?_
    rw [HB.out]
    rintro e w4 ⟨b4, s4, rfl, hb4, hh4, hbel4⟩
    have B4 := hid (below_next B3.out hbel4)
    have R4 := hid (R3.out.below hbel4)
    have L4 := hid (L3.out.below hbel4)
    have C4 := hid (C3.out.below hbel4)
    have F4 : Hid (F.answers w4.tape) := by rw [Hid, B4.out.tape]; exact hF
    have hp4 := viol_cell hh4
    clear hh4 hbel4 B3 C3 F3 L3 R3 HB
    go_wp2_with (go_at_call 11; refine (property_any _ _ _ hp4).mono ?_; rintro e _ ⟨rfl, rfl⟩)
    clear hp4
    refine (zl_any F _ (some lt) _ 0 z _ _ F4.out (by omega) (by omega) C4.out L4.out).mono ?_
    rw [content_at lt _ z _ (by omega)]
    rintro e w5 ⟨b5, s5, rfl, hb5, hh5, hbel5⟩
    have B5 := hid (below_next B4.out hbel5)
    have R5 := hid ((R4.out.below hbel5).more lt)
    have L5 := hid (L4.out.below hbel5)
    have hp5 := viol_cell hh5
    clear hh5 hbel5 B4 R4 L4 C4 F4
    go_wp2_with (go_at_call 11; refine (property_any _ _ _ hp5).mono ?_; rintro e _ ⟨rfl, rfl⟩)
    clear hp5
    refine (entries_plus _ 0 cap (more z 0 lt) lt (more_at z 0 lt) _ (by omega) hlc R5.out).mono ?_
    rintro e w6 ⟨g6, rfl, hg6, hE6, hb6⟩
    have B6 := hid (below_next B5.out hb6)
    have L6 := hid (L5.out.below hb6)
    have E6 := hid hE6
    clear hE6 hb6 B5 R5 L5
    go_wp2_with fail
    refine (checker_any (.bool true) g6 (0 + 1) _).mono ?_
    rintro e w7 ⟨rfl, hc7, hb7⟩
    have B7 := hid (below_next B6.out hb7)
    have L7 := hid (L6.out.below hb7)
    have C7 := hid (chk_mk E6.out hb7 hc7)
    clear E6 B6 L6 hb7 hc7
    have F7 : Hid (F.answers w7.tape) := by rw [Hid, B7.out.tape]; exact hF
    go_wp2_with fail
    refine (zl_any F _ (some lt) _ (0 + 1) (more z 0 lt) quiet _ F7.out (by omega) hq C7.out L7.out).mono ?_
    rw [content_yes lt 0 _ quiet (more_at z 0 lt) (by omega)]
    rintro e w8 ⟨rfl, hbel8⟩
    have B8 := hid (below_next B7.out hbel8)
    have L8 := hid (L7.out.below hbel8)
    have C8 := hid (C7.out.below hbel8)
    have F8 : Hid (F.answers w8.tape) := by rw [Hid, B8.out.tape]; exact hF
    clear hbel8 B7 C7 F7 L7
    go_wp2_with fail
    refine (zl_any F _ (some lt) _ (0 + 1) (more z 0 lt) _ _ F8.out (by omega) (by omega) C8.out L8.out).mono ?_
    rw [content_yes lt 0 _ _ (more_at z 0 lt) (by omega)]
    rintro e w9 ⟨rfl, hbel9⟩
    have B9 := hid (below_next B8.out hbel9)
    clear hbel9 B8 C8 F8 L8
    go_wp2_with fail
    go_ret
    exact ⟨rfl, B9.out⟩

set_option maxRecDepth 100000 in
set_option maxHeartbeats 2000000 in
theorem own_zero_gt (F : Interp) (a : Option Addr) (cap : Nat) (lt quiet : Int) (z : Nat → Int) (w : World) (hF : F.answers w.tape) (hlc : 0 ≤ cap) (hl : 0 ≤ 131072) (hq : 0 ≤ quiet) (hrow : TermRow w a 0 z)  (hbf : content (some lt) 0 z quiet = false) (hqn : 0 < quiet) :
    Calls Tryf.prog 3 #[.slice a 0 cap, .bool true, .int .u64 lt, .int .i64 quiet] w fun e w' => e = .returned (.bool true) ∧ Below w.heap.size w w' := by
  have R := hid hrow
  have HB := hid hbf
  clear hrow hbf
  go_enter Tryf.func3, Tryf.ntmps3
  go_wp2_with (first | (go_at_call 5; go_in))
  refine (nondec_any a 0 cap z _ (by omega) hlc R.out).mono ?_
  rintro e w1 ⟨r, rfl, n1, hw1⟩
  have B1 : Hid (Below w.heap.size w w1) := by rw [hw1]; exact drawn_below w n1
  clear hw1
  cases r with
  | false =>
    go_wp2_with fail
    go_ret
    exact ⟨rfl, B1.out⟩
  | true =>
    have R1 := hid (R.out.below B1.out)
    clear R
    go_wp2_with fail
    refine (leader_yes lt _).mono ?_
    rintro e w1' ⟨rfl, hcl, hbl⟩
    have L1 : Hid (Lead w1' (.pointer (some ⟨w1.heap.size, 0, none⟩)) (some lt)) := ⟨_, rfl, hcl⟩
    have B1' := hid (below_next B1.out hbl)
    have R1' := hid (R1.out.below hbl)
    clear hcl hbl B1 R1
    go_wp2_with fail
    refine (entries_any _ 0 cap z _ _ (by omega) hlc R1'.out).mono ?_
    rintro e w2 ⟨g, rfl, hg, hE, hb2⟩
    have B2 := hid (below_next B1'.out hb2)
    have R2 := hid (R1'.out.below hb2)
    have L2 := hid (L1.out.below hb2)
    have E2 := hid hE
    clear hE hb2 B1' R1' L1
    go_wp2_with fail
    refine (checker_any (.bool true) g 0 _).mono ?_
    rintro e w3 ⟨rfl, hc3, hb3⟩
    have B3 := hid (below_next B2.out hb3)
    have R3 := hid (R2.out.below hb3)
    have L3 := hid (L2.out.below hb3)
    have C3 := hid (chk_mk E2.out hb3 hc3)
    clear E2 B2 R2 L2 hb3 hc3
    have F3 : Hid (F.answers w3.tape) := by rw [Hid, B3.out.tape]; exact hF
    go_wp2_with fail
    refine (zl_any F _ (some lt) _ 0 z quiet _ F3.out (by omega) hq C3.out L3.out).mono ?_
    rw [HB.out]
    rintro e w4 ⟨b4, s4, rfl, hb4, hh4, hbel4⟩
    have B4 := hid (below_next B3.out hbel4)
    have R4 := hid (R3.out.below hbel4)
    have L4 := hid (L3.out.below hbel4)
    have C4 := hid (C3.out.below hbel4)
    have F4 : Hid (F.answers w4.tape) := by rw [Hid, B4.out.tape]; exact hF
    have hp4 := viol_cell hh4
    clear hh4 hbel4 B3 C3 F3 L3 R3 HB
    go_wp2_with (go_at_call 11; refine (property_any _ _ _ hp4).mono ?_; rintro e _ ⟨rfl, rfl⟩)
    clear hp4
    refine (zl_any F _ (some lt) _ 0 z _ _ F4.out (by omega) (by omega) C4.out L4.out).mono ?_
    rw [content_at lt _ z _ (by omega)]
    rintro e w5 ⟨b5, s5, rfl, hb5, hh5, hbel5⟩
    have B5 := hid (below_next B4.out hbel5)
    have R5 := hid ((R4.out.below hbel5).more lt)
    have L5 := hid (L4.out.below hbel5)
    have hp5 := viol_cell hh5
    clear hh5 hbel5 B4 R4 L4 C4 F4
    go_wp2_with (go_at_call 11; refine (property_any _ _ _ hp5).mono ?_; rintro e _ ⟨rfl, rfl⟩)
    clear hp5
    refine (entries_plus _ 0 cap (more z 0 lt) lt (more_at z 0 lt) _ (by omega) hlc R5.out).mono ?_
    rintro e w6 ⟨g6, rfl, hg6, hE6, hb6⟩
    have B6 := hid (below_next B5.out hb6)
    have L6 := hid (L5.out.below hb6)
    have E6 := hid hE6
    clear hE6 hb6 B5 R5 L5
    go_wp2_with fail
    refine (checker_any (.bool true) g6 (0 + 1) _).mono ?_
    rintro e w7 ⟨rfl, hc7, hb7⟩
    have B7 := hid (below_next B6.out hb7)
    have L7 := hid (L6.out.below hb7)
    have C7 := hid (chk_mk E6.out hb7 hc7)
    clear E6 B6 L6 hb7 hc7
    have F7 : Hid (F.answers w7.tape) := by rw [Hid, B7.out.tape]; exact hF
    go_wp2_with fail
    refine (zl_any F _ (some lt) _ (0 + 1) (more z 0 lt) quiet _ F7.out (by omega) hq C7.out L7.out).mono ?_
    rw [content_at lt (0 + 1) _ quiet (by omega)]
    rintro e w8 ⟨b8, s8, rfl, hb8, hh8, hbel8⟩
    have B8 := hid (below_next B7.out hbel8)
    have L8 := hid (L7.out.below hbel8)
    have C8 := hid (C7.out.below hbel8)
    have F8 : Hid (F.answers w8.tape) := by rw [Hid, B8.out.tape]; exact hF
    have hp8 := viol_cell hh8
    clear hh8 hbel8 B7 C7 F7 L7
    go_wp2_with (go_at_call 11; refine (property_any _ _ _ hp8).mono ?_; rintro e _ ⟨rfl, rfl⟩)
    clear hp8
    refine (zl_any F _ (some lt) _ (0 + 1) (more z 0 lt) _ _ F8.out (by omega) (by omega) C8.out L8.out).mono ?_
    rw [content_yes lt 0 _ _ (more_at z 0 lt) (by omega)]
    rintro e w9 ⟨rfl, hbel9⟩
    have B9 := hid (below_next B8.out hbel9)
    clear hbel9 B8 C8 F8 L8
    go_wp2_with fail
    go_ret
    exact ⟨rfl, B9.out⟩

set_option maxRecDepth 100000 in
set_option maxHeartbeats 2000000 in
theorem own_pos_tt (F : Interp) (a : Option Addr) (len cap : Nat) (lt quiet : Int) (z : Nat → Int) (w : World) (hF : F.answers w.tape) (hlc : len ≤ cap) (hl : len ≤ 131072) (hq : 0 ≤ quiet) (hrow : TermRow w a len z) (h0 : 0 < len) (last : Int) (HZ : Hid (z (len - 1) = last)) (hlt : last ≤ lt) (hbf : content (some lt) len z quiet = true) (hqn : quiet ≤ len) :
    Calls Tryf.prog 3 #[.slice a len cap, .bool true, .int .u64 lt, .int .i64 quiet] w fun e w' => e = .returned (.bool true) ∧ Below w.heap.size w w' := by
  have R := hid hrow
  have HB := hid hbf
  clear hrow hbf
  go_enter Tryf.func3, Tryf.ntmps3
  go_wp2_with (first | (go_at_call 5; go_in))
  refine (nondec_any a len cap z _ (by omega) hlc R.out).mono ?_
  rintro e w1 ⟨r, rfl, n1, hw1⟩
  have B1 : Hid (Below w.heap.size w w1) := by rw [hw1]; exact drawn_below w n1
  clear hw1
  cases r with
  | false =>
    go_wp2_with fail
    go_ret
    exact ⟨rfl, B1.out⟩
  | true =>
    have R1 := hid (R.out.below B1.out)
    clear R
    obtain ⟨b, off, rfl, hck, ht⟩ := cell_row R1.out h0
    rw [HZ.out] at hck
    have i1 : (0 : Int) ≤ (len : Int) - 1 := by omega
    have i2 : (len : Int) - 1 < (len : Int) := by omega
    go_wp2_with fail
    refine (leader_yes lt _).mono ?_
    rintro e w1' ⟨rfl, hcl, hbl⟩
    have L1 : Hid (Lead w1' (.pointer (some ⟨w1.heap.size, 0, none⟩)) (some lt)) := ⟨_, rfl, hcl⟩
    have B1' := hid (below_next B1.out hbl)
    have R1' := hid (R1.out.below hbl)
    clear hcl hbl B1 R1
    go_wp2_with fail
    refine (entries_any _ len cap z _ _ (by omega) hlc R1'.out).mono ?_
    rintro e w2 ⟨g, rfl, hg, hE, hb2⟩
    have B2 := hid (below_next B1'.out hb2)
    have R2 := hid (R1'.out.below hb2)
    have L2 := hid (L1.out.below hb2)
    have E2 := hid hE
    clear hE hb2 B1' R1' L1
    go_wp2_with fail
    refine (checker_any (.bool true) g len _).mono ?_
    rintro e w3 ⟨rfl, hc3, hb3⟩
    have B3 := hid (below_next B2.out hb3)
    have R3 := hid (R2.out.below hb3)
    have L3 := hid (L2.out.below hb3)
    have C3 := hid (chk_mk E2.out hb3 hc3)
    clear E2 B2 R2 L2 hb3 hc3
    have F3 : Hid (F.answers w3.tape) := by rw [Hid, B3.out.tape]; exact hF
    go_wp2_with fail
    refine (zl_any F _ (some lt) _ len z quiet _ F3.out (by omega) hq C3.out L3.out).mono ?_
    rw [HB.out]
    rintro e w4 ⟨rfl, hbel4⟩
    have B4 := hid (below_next B3.out hbel4)
    have R4 := hid (R3.out.below hbel4)
    have L4 := hid (L3.out.below hbel4)
    have C4 := hid (C3.out.below hbel4)
    have F4 : Hid (F.answers w4.tape) := by rw [Hid, B4.out.tape]; exact hF
    clear hbel4 B3 C3 F3 L3 R3 HB
    go_wp2_with fail
    refine (zl_any F _ (some lt) _ len z _ _ F4.out (by omega) (by omega) C4.out L4.out).mono ?_
    rw [content_at lt _ z _ (by omega)]
    rintro e w5 ⟨b5, s5, rfl, hb5, hh5, hbel5⟩
    have B5 := hid (below_next B4.out hbel5)
    have R5 := hid ((R4.out.below hbel5).more lt)
    have L5 := hid (L4.out.below hbel5)
    have hp5 := viol_cell hh5
    clear hh5 hbel5 B4 R4 L4 C4 F4
    go_wp2_with (go_at_call 11; refine (property_any _ _ _ hp5).mono ?_; rintro e _ ⟨rfl, rfl⟩)
    clear hp5
    refine (entries_plus _ len cap (more z len lt) lt (more_at z len lt) _ (by omega) hlc R5.out).mono ?_
    rintro e w6 ⟨g6, rfl, hg6, hE6, hb6⟩
    have B6 := hid (below_next B5.out hb6)
    have L6 := hid (L5.out.below hb6)
    have E6 := hid hE6
    clear hE6 hb6 B5 R5 L5
    go_wp2_with fail
    refine (checker_any (.bool true) g6 (len + 1) _).mono ?_
    rintro e w7 ⟨rfl, hc7, hb7⟩
    have B7 := hid (below_next B6.out hb7)
    have L7 := hid (L6.out.below hb7)
    have C7 := hid (chk_mk E6.out hb7 hc7)
    clear E6 B6 L6 hb7 hc7
    have F7 : Hid (F.answers w7.tape) := by rw [Hid, B7.out.tape]; exact hF
    go_wp2_with fail
    refine (zl_any F _ (some lt) _ (len + 1) (more z len lt) quiet _ F7.out (by omega) hq C7.out L7.out).mono ?_
    rw [content_yes lt len _ quiet (more_at z len lt) (by omega)]
    rintro e w8 ⟨rfl, hbel8⟩
    have B8 := hid (below_next B7.out hbel8)
    have L8 := hid (L7.out.below hbel8)
    have C8 := hid (C7.out.below hbel8)
    have F8 : Hid (F.answers w8.tape) := by rw [Hid, B8.out.tape]; exact hF
    clear hbel8 B7 C7 F7 L7
    go_wp2_with fail
    refine (zl_any F _ (some lt) _ (len + 1) (more z len lt) _ _ F8.out (by omega) (by omega) C8.out L8.out).mono ?_
    rw [content_yes lt len _ _ (more_at z len lt) (by omega)]
    rintro e w9 ⟨rfl, hbel9⟩
    have B9 := hid (below_next B8.out hbel9)
    clear hbel9 B8 C8 F8 L8
    go_wp2_with fail
    go_ret
    exact ⟨rfl, B9.out⟩

set_option maxRecDepth 100000 in
set_option maxHeartbeats 2000000 in
theorem own_pos_le (F : Interp) (a : Option Addr) (len cap : Nat) (lt quiet : Int) (z : Nat → Int) (w : World) (hF : F.answers w.tape) (hlc : len ≤ cap) (hl : len ≤ 131072) (hq : 0 ≤ quiet) (hrow : TermRow w a len z) (h0 : 0 < len) (last : Int) (HZ : Hid (z (len - 1) = last)) (hlt : last ≤ lt) (hbf : content (some lt) len z quiet = false) (hqn : quiet ≤ len) :
    Calls Tryf.prog 3 #[.slice a len cap, .bool true, .int .u64 lt, .int .i64 quiet] w fun e w' => e = .returned (.bool true) ∧ Below w.heap.size w w' := by
  have R := hid hrow
  have HB := hid hbf
  clear hrow hbf
  go_enter Tryf.func3, Tryf.ntmps3
  go_wp2_with (first | (go_at_call 5; go_in))
  refine (nondec_any a len cap z _ (by omega) hlc R.out).mono ?_
  rintro e w1 ⟨r, rfl, n1, hw1⟩
  have B1 : Hid (Below w.heap.size w w1) := by rw [hw1]; exact drawn_below w n1
  clear hw1
  cases r with
  | false =>
    go_wp2_with fail
    go_ret
    exact ⟨rfl, B1.out⟩
  | true =>
    have R1 := hid (R.out.below B1.out)
    clear R
    obtain ⟨b, off, rfl, hck, ht⟩ := cell_row R1.out h0
    rw [HZ.out] at hck
    have i1 : (0 : Int) ≤ (len : Int) - 1 := by omega
    have i2 : (len : Int) - 1 < (len : Int) := by omega
    go_wp2_with fail
    refine (leader_yes lt _).mono ?_
    rintro e w1' ⟨rfl, hcl, hbl⟩
    have L1 : Hid (Lead w1' (.pointer (some ⟨w1.heap.size, 0, none⟩)) (some lt)) := ⟨_, rfl, hcl⟩
    have B1' := hid (below_next B1.out hbl)
    have R1' := hid (R1.out.below hbl)
    clear hcl hbl B1 R1
    go_wp2_with fail
    refine (entries_any _ len cap z _ _ (by omega) hlc R1'.out).mono ?_
    rintro e w2 ⟨g, rfl, hg, hE, hb2⟩
    have B2 := hid (below_next B1'.out hb2)
    have R2 := hid (R1'.out.below hb2)
    have L2 := hid (L1.out.below hb2)
    have E2 := hid hE
    clear hE hb2 B1' R1' L1
    go_wp2_with fail
    refine (checker_any (.bool true) g len _).mono ?_
    rintro e w3 ⟨rfl, hc3, hb3⟩
    have B3 := hid (below_next B2.out hb3)
    have R3 := hid (R2.out.below hb3)
    have L3 := hid (L2.out.below hb3)
    have C3 := hid (chk_mk E2.out hb3 hc3)
    clear E2 B2 R2 L2 hb3 hc3
    have F3 : Hid (F.answers w3.tape) := by rw [Hid, B3.out.tape]; exact hF
    go_wp2_with fail
    refine (zl_any F _ (some lt) _ len z quiet _ F3.out (by omega) hq C3.out L3.out).mono ?_
    rw [HB.out]
    rintro e w4 ⟨b4, s4, rfl, hb4, hh4, hbel4⟩
    have B4 := hid (below_next B3.out hbel4)
    have R4 := hid (R3.out.below hbel4)
    have L4 := hid (L3.out.below hbel4)
    have C4 := hid (C3.out.below hbel4)
    have F4 : Hid (F.answers w4.tape) := by rw [Hid, B4.out.tape]; exact hF
    have hp4 := viol_cell hh4
    clear hh4 hbel4 B3 C3 F3 L3 R3 HB
    go_wp2_with (go_at_call 11; refine (property_any _ _ _ hp4).mono ?_; rintro e _ ⟨rfl, rfl⟩)
    clear hp4
    refine (zl_any F _ (some lt) _ len z _ _ F4.out (by omega) (by omega) C4.out L4.out).mono ?_
    rw [content_at lt _ z _ (by omega)]
    rintro e w5 ⟨b5, s5, rfl, hb5, hh5, hbel5⟩
    have B5 := hid (below_next B4.out hbel5)
    have R5 := hid ((R4.out.below hbel5).more lt)
    have L5 := hid (L4.out.below hbel5)
    have hp5 := viol_cell hh5
    clear hh5 hbel5 B4 R4 L4 C4 F4
    go_wp2_with (go_at_call 11; refine (property_any _ _ _ hp5).mono ?_; rintro e _ ⟨rfl, rfl⟩)
    clear hp5
    refine (entries_plus _ len cap (more z len lt) lt (more_at z len lt) _ (by omega) hlc R5.out).mono ?_
    rintro e w6 ⟨g6, rfl, hg6, hE6, hb6⟩
    have B6 := hid (below_next B5.out hb6)
    have L6 := hid (L5.out.below hb6)
    have E6 := hid hE6
    clear hE6 hb6 B5 R5 L5
    go_wp2_with fail
    refine (checker_any (.bool true) g6 (len + 1) _).mono ?_
    rintro e w7 ⟨rfl, hc7, hb7⟩
    have B7 := hid (below_next B6.out hb7)
    have L7 := hid (L6.out.below hb7)
    have C7 := hid (chk_mk E6.out hb7 hc7)
    clear E6 B6 L6 hb7 hc7
    have F7 : Hid (F.answers w7.tape) := by rw [Hid, B7.out.tape]; exact hF
    go_wp2_with fail
    refine (zl_any F _ (some lt) _ (len + 1) (more z len lt) quiet _ F7.out (by omega) hq C7.out L7.out).mono ?_
    rw [content_yes lt len _ quiet (more_at z len lt) (by omega)]
    rintro e w8 ⟨rfl, hbel8⟩
    have B8 := hid (below_next B7.out hbel8)
    have L8 := hid (L7.out.below hbel8)
    have C8 := hid (C7.out.below hbel8)
    have F8 : Hid (F.answers w8.tape) := by rw [Hid, B8.out.tape]; exact hF
    clear hbel8 B7 C7 F7 L7
    go_wp2_with fail
    refine (zl_any F _ (some lt) _ (len + 1) (more z len lt) _ _ F8.out (by omega) (by omega) C8.out L8.out).mono ?_
    rw [content_yes lt len _ _ (more_at z len lt) (by omega)]
    rintro e w9 ⟨rfl, hbel9⟩
    have B9 := hid (below_next B8.out hbel9)
    clear hbel9 B8 C8 F8 L8
    go_wp2_with fail
    go_ret
    exact ⟨rfl, B9.out⟩

set_option maxRecDepth 100000 in
set_option maxHeartbeats 2000000 in
theorem own_pos_gt (F : Interp) (a : Option Addr) (len cap : Nat) (lt quiet : Int) (z : Nat → Int) (w : World) (hF : F.answers w.tape) (hlc : len ≤ cap) (hl : len ≤ 131072) (hq : 0 ≤ quiet) (hrow : TermRow w a len z) (h0 : 0 < len) (last : Int) (HZ : Hid (z (len - 1) = last)) (hlt : last ≤ lt) (hbf : content (some lt) len z quiet = false) (hqn : len < quiet) :
    Calls Tryf.prog 3 #[.slice a len cap, .bool true, .int .u64 lt, .int .i64 quiet] w fun e w' => e = .returned (.bool true) ∧ Below w.heap.size w w' := by
  have R := hid hrow
  have HB := hid hbf
  clear hrow hbf
  go_enter Tryf.func3, Tryf.ntmps3
  go_wp2_with (first | (go_at_call 5; go_in))
  refine (nondec_any a len cap z _ (by omega) hlc R.out).mono ?_
  rintro e w1 ⟨r, rfl, n1, hw1⟩
  have B1 : Hid (Below w.heap.size w w1) := by rw [hw1]; exact drawn_below w n1
  clear hw1
  cases r with
  | false =>
    go_wp2_with fail
    go_ret
    exact ⟨rfl, B1.out⟩
  | true =>
    have R1 := hid (R.out.below B1.out)
    clear R
    obtain ⟨b, off, rfl, hck, ht⟩ := cell_row R1.out h0
    rw [HZ.out] at hck
    have i1 : (0 : Int) ≤ (len : Int) - 1 := by omega
    have i2 : (len : Int) - 1 < (len : Int) := by omega
    go_wp2_with fail
    refine (leader_yes lt _).mono ?_
    rintro e w1' ⟨rfl, hcl, hbl⟩
    have L1 : Hid (Lead w1' (.pointer (some ⟨w1.heap.size, 0, none⟩)) (some lt)) := ⟨_, rfl, hcl⟩
    have B1' := hid (below_next B1.out hbl)
    have R1' := hid (R1.out.below hbl)
    clear hcl hbl B1 R1
    go_wp2_with fail
    refine (entries_any _ len cap z _ _ (by omega) hlc R1'.out).mono ?_
    rintro e w2 ⟨g, rfl, hg, hE, hb2⟩
    have B2 := hid (below_next B1'.out hb2)
    have R2 := hid (R1'.out.below hb2)
    have L2 := hid (L1.out.below hb2)
    have E2 := hid hE
    clear hE hb2 B1' R1' L1
    go_wp2_with fail
    refine (checker_any (.bool true) g len _).mono ?_
    rintro e w3 ⟨rfl, hc3, hb3⟩
    have B3 := hid (below_next B2.out hb3)
    have R3 := hid (R2.out.below hb3)
    have L3 := hid (L2.out.below hb3)
    have C3 := hid (chk_mk E2.out hb3 hc3)
    clear E2 B2 R2 L2 hb3 hc3
    have F3 : Hid (F.answers w3.tape) := by rw [Hid, B3.out.tape]; exact hF
    go_wp2_with fail
    refine (zl_any F _ (some lt) _ len z quiet _ F3.out (by omega) hq C3.out L3.out).mono ?_
    rw [HB.out]
    rintro e w4 ⟨b4, s4, rfl, hb4, hh4, hbel4⟩
    have B4 := hid (below_next B3.out hbel4)
    have R4 := hid (R3.out.below hbel4)
    have L4 := hid (L3.out.below hbel4)
    have C4 := hid (C3.out.below hbel4)
    have F4 : Hid (F.answers w4.tape) := by rw [Hid, B4.out.tape]; exact hF
    have hp4 := viol_cell hh4
    clear hh4 hbel4 B3 C3 F3 L3 R3 HB
    go_wp2_with (go_at_call 11; refine (property_any _ _ _ hp4).mono ?_; rintro e _ ⟨rfl, rfl⟩)
    clear hp4
    refine (zl_any F _ (some lt) _ len z _ _ F4.out (by omega) (by omega) C4.out L4.out).mono ?_
    rw [content_at lt _ z _ (by omega)]
    rintro e w5 ⟨b5, s5, rfl, hb5, hh5, hbel5⟩
    have B5 := hid (below_next B4.out hbel5)
    have R5 := hid ((R4.out.below hbel5).more lt)
    have L5 := hid (L4.out.below hbel5)
    have hp5 := viol_cell hh5
    clear hh5 hbel5 B4 R4 L4 C4 F4
    go_wp2_with (go_at_call 11; refine (property_any _ _ _ hp5).mono ?_; rintro e _ ⟨rfl, rfl⟩)
    clear hp5
    refine (entries_plus _ len cap (more z len lt) lt (more_at z len lt) _ (by omega) hlc R5.out).mono ?_
    rintro e w6 ⟨g6, rfl, hg6, hE6, hb6⟩
    have B6 := hid (below_next B5.out hb6)
    have L6 := hid (L5.out.below hb6)
    have E6 := hid hE6
    clear hE6 hb6 B5 R5 L5
    go_wp2_with fail
    refine (checker_any (.bool true) g6 (len + 1) _).mono ?_
    rintro e w7 ⟨rfl, hc7, hb7⟩
    have B7 := hid (below_next B6.out hb7)
    have L7 := hid (L6.out.below hb7)
    have C7 := hid (chk_mk E6.out hb7 hc7)
    clear E6 B6 L6 hb7 hc7
    have F7 : Hid (F.answers w7.tape) := by rw [Hid, B7.out.tape]; exact hF
    go_wp2_with fail
    refine (zl_any F _ (some lt) _ (len + 1) (more z len lt) quiet _ F7.out (by omega) hq C7.out L7.out).mono ?_
    rw [content_at lt (len + 1) _ quiet (by omega)]
    rintro e w8 ⟨b8, s8, rfl, hb8, hh8, hbel8⟩
    have B8 := hid (below_next B7.out hbel8)
    have L8 := hid (L7.out.below hbel8)
    have C8 := hid (C7.out.below hbel8)
    have F8 : Hid (F.answers w8.tape) := by rw [Hid, B8.out.tape]; exact hF
    have hp8 := viol_cell hh8
    clear hh8 hbel8 B7 C7 F7 L7
    go_wp2_with (go_at_call 11; refine (property_any _ _ _ hp8).mono ?_; rintro e _ ⟨rfl, rfl⟩)
    clear hp8
    refine (zl_any F _ (some lt) _ (len + 1) (more z len lt) _ _ F8.out (by omega) (by omega) C8.out L8.out).mono ?_
    rw [content_yes lt len _ _ (more_at z len lt) (by omega)]
    rintro e w9 ⟨rfl, hbel9⟩
    have B9 := hid (below_next B8.out hbel9)
    clear hbel9 B8 C8 F8 L8
    go_wp2_with fail
    go_ret
    exact ⟨rfl, B9.out⟩

theorem own_any (F : Interp) (a : Option Addr) (len cap : Nat) (present : Bool) (lt quiet : Int) (z : Nat → Int) (w : World) (hF : F.answers w.tape) (hlc : len ≤ cap) (hmax : len ≤ 9223372036854775807) (hrow : TermRow w a len z) :
    Calls Tryf.prog 3 #[.slice a len cap, .bool present, .int .u64 lt, .int .i64 quiet] w fun e w' => e = .returned (.bool true) ∧ Below w.heap.size w w' := by
  by_cases hs : 131072 < len ∨ quiet < 0
  · exact own_short a len cap present lt quiet w hmax hs
  · have hl : len ≤ 131072 := by omega
    have hq : 0 ≤ quiet := by omega
    cases present with
    | false => exact own_no F a len cap lt quiet z w hF hlc hl hq hrow
    | true =>
      by_cases h0 : len = 0
      · subst h0
        have hb : content (some lt) 0 z quiet = false := content_at lt 0 z quiet (by omega)
        by_cases hqn : quiet ≤ 0
        · exact own_zero_le F a cap lt quiet z w hF hlc hl hq hrow hb hqn
        · exact own_zero_gt F a cap lt quiet z w hF hlc hl hq hrow hb (by omega)
      · have h0' : 0 < len := by omega
        by_cases hlt : lt < z (len - 1)
        · exact own_behind F a len cap lt quiet _ z w hlc hl h0' hq hrow rfl hlt
        · cases hb : content (some lt) len z quiet with
          | true =>
            have hqn : quiet < len := by
              simp [content] at hb
              exact hb.1
            exact own_pos_tt F a len cap lt quiet z w hF hlc hl hq hrow h0' _ (hid rfl) (by omega) hb (by omega)
          | false =>
            by_cases hqn : quiet ≤ len
            · exact own_pos_le F a len cap lt quiet z w hF hlc hl hq hrow h0' _ (hid rfl) (by omega) hb (by omega)
            · exact own_pos_gt F a len cap lt quiet z w hF hlc hl hq hrow h0' _ (hid rfl) (by omega) hb (by omega)

end Go.Proofs.Qxb6613359aFmt
