import Derived.Test.Qxb6613359aFmtW3
namespace Go.Proofs.Qxb6613359aFmt
open Go.RowKit Go.Extern.Stop Go.Stop Go.Extern
set_option linter.unusedVariables false

theorem hid {p : Prop} (h : p) : Hid p := h

/-- The leader as it lies in memory: none, or one of a term. -/
def Lead (w : World) (v : Value) : Option Int → Prop
  | none => v = .pointer none
  | some lt => ∃ lb, v = .pointer (some ⟨lb, 0, none⟩) ∧ w.cell? ⟨lb, 2, none⟩ = some (.int .u64 lt)
theorem Lead.below {w w' : World} {v : Value} {p : Option Int} (h : Lead w v p) (hb : Below w.heap.size w w') : Lead w' v p := by
  cases p with
  | none => exact h
  | some lt =>
    obtain ⟨lb, h1, h2⟩ := h
    exact ⟨lb, h1, (hb.cell (World.block_lt_of_cell? w _ h2)).trans h2⟩

/-- Is 'live' content? -/
def content (p : Option Int) (m : Nat) (z : Nat → Int) (quiet : Int) : Bool :=
  match p with
  | none => false
  | some lt => decide (quiet < m) && (z (m - 1) == lt)

/-- What 'live' gives back. -/
def Gives (ok : Bool) (w : World) (e : Ending) (w' : World) : Prop :=
  match ok with
  | true => e = .returned (.pointer none) ∧ Below w.heap.size w w'
  | false => Viol w e w'

/-- A checker in block cb over the entries in block g. -/
structure Chk (cb m : Nat) (z : Nat → Int) (w : World) : Prop where
  ex : ∃ g, w.cell? ⟨cb, 3, none⟩ = some (.slice (some ⟨g, 0, none⟩) m m) ∧ Ents g m m z w
theorem Chk.below {cb m : Nat} {z : Nat → Int} {w w' : World} (h : Chk cb m z w) (hb : Below w.heap.size w w') : Chk cb m z w' := by
  obtain ⟨g, h1, h2⟩ := h.ex
  exact ⟨g, (hb.cell (World.block_lt_of_cell? w _ h1)).trans h1, h2.below hb⟩

theorem live_any (F : Interp) (lv : Value) (p : Option Int) (cb m : Nat) (z : Nat → Int) (quiet : Int) (w : World) (hF : F.answers w.tape) (hm : m ≤ 1000000) (hq0 : 0 ≤ quiet) (hc : Chk cb m z w) (hl : Lead w lv p) :
    Calls Tryf.prog 14 #[.pointer (some ⟨cb, 0, none⟩), lv, .int .i64 quiet] w (Gives (content p m z quiet) w) := by
  obtain ⟨g, h1, h2⟩ := hc.ex
  cases p with
  | none =>
    have e : content none m z quiet = false := rfl
    rw [e]
    simp only [Lead] at hl
    subst hl
    exact live_none F cb g m quiet w hF hm h1
  | some lt =>
    obtain ⟨lb, rfl, hlt⟩ := hl
    by_cases hq : (m : Int) ≤ quiet
    · have e : content (some lt) m z quiet = false := by simp [content]; intro; omega
      rw [e]
      exact live_old F cb g lb m quiet w hF hm h1 hq
    · cases m with
      | zero => exact absurd hq0 (by simp at hq; omega)
      | succ k =>
        have ht := h2.cell k (Nat.lt_succ_self k)
        cases hz : z k == lt
        · have e : content (some lt) (k + 1) z quiet = false := by simp [content, hz]
          rw [e]
          exact live_other F cb g lb k quiet (z k) lt w hF hm h1 (by omega) ht hlt hz
        · have e : content (some lt) (k + 1) z quiet = true := by simp [content, hz]; omega
          rw [e]
          rw [beq_iff_eq.1 hz] at ht
          exact live_own cb g lb k quiet lt w hm h1 (by omega) ht hlt

theorem zl_any (F : Interp) (lv : Value) (p : Option Int) (cb m : Nat) (z : Nat → Int) (quiet : Int) (w : World) (hF : F.answers w.tape) (hm : m ≤ 1000000) (hq0 : 0 ≤ quiet) (hc : Chk cb m z w) (hl : Lead w lv p) :
    Calls Tryf.prog 10 #[.pointer (some ⟨cb, 0, none⟩), lv, .int .i64 quiet] w (Gives (content p m z quiet) w) := by
  have H := hid (live_any F lv p cb m z quiet w hF hm hq0 hc hl)
  clear hc hl
  generalize content p m z quiet = ok at *
  go_enter Tryf.func10, Tryf.ntmps10
  go_wp2_with fail
  refine H.out.mono ?_
  intro e w' hg
  cases ok with
  | true =>
    obtain ⟨rfl, hb⟩ : e = .returned (.pointer none) ∧ Below w.heap.size w w' := hg
    go_wp2_with fail
    go_ret
    exact ⟨rfl, hb⟩
  | false =>
    obtain ⟨b, s, rfl, hb⟩ : Viol w e w' := hg
    go_wp2_with fail
    go_ret
    exact ⟨b, s, rfl, hb⟩

/-- ZZEntries and ZZNewChecker in one word, for the laws. -/
theorem chk_mk {w1 w2 : World} {g m : Nat} {z : Nat → Int} (hE : Ents g m m z w1) (hb : Below w1.heap.size w1 w2) (hc : w2.cell? ⟨w1.heap.size, 3, none⟩ = some (.slice (some ⟨g, 0, none⟩) m m)) : Chk w1.heap.size m z w2 := ⟨g, hc, hE.below hb⟩

theorem below_next {W w w' : World} (h : Below W.heap.size W w) (hb : Below w.heap.size w w') : Below W.heap.size W w' := h.trans (hb.mono h.size)
theorem drawn_below (w : World) (n : Nat) : Below w.heap.size w (w.drewN n) := ⟨rfl, rfl, rfl, Nat.le_refl _, fun _ _ => rfl⟩
theorem viol_cell {w' : World} {b : Nat} {s t : ByteArray} (h : w'.heap[b]? = some (.cells #[.string s, .string t] 53 (0, 0))) : w'.cell? ⟨b, 0, none⟩ = some (.string s) := by simp [World.cell?, h]

abbrev livenessB : ByteArray := ⟨#[108, 105, 118, 101, 110, 101, 115, 115]⟩

set_option maxRecDepth 100000 in
set_option maxHeartbeats 1000000 in
theorem own_short (a : Option Addr) (len cap : Nat) (present : Bool) (lt quiet : Int) (w : World) (hl : len ≤ 9223372036854775807) (hs : 131072 < len ∨ quiet < 0) :
    Calls Tryf.prog 3 #[.slice a len cap, .bool present, .int .u64 lt, .int .i64 quiet] w fun e w' => e = .returned (.bool true) ∧ Below w.heap.size w w' := by
  by_cases h1 : 1048576 < len
  · go_enter Tryf.func3, Tryf.ntmps3
    go_wp2
    go_ret
    exact ⟨rfl, Below.refl _ _⟩
  · by_cases h2 : 131072 < len
    · go_enter Tryf.func3, Tryf.ntmps3
      go_wp2
      go_ret
      exact ⟨rfl, Below.refl _ _⟩
    · have h3 : quiet < 0 := by omega
      go_enter Tryf.func3, Tryf.ntmps3
      go_wp2
      go_ret
      exact ⟨rfl, Below.refl _ _⟩

set_option maxRecDepth 100000 in
set_option maxHeartbeats 1000000 in
theorem own_no (F : Interp) (a : Option Addr) (len cap : Nat) (lt quiet : Int) (z : Nat → Int) (w : World) (hF : F.answers w.tape) (hlc : len ≤ cap) (hl : len ≤ 131072) (hq : 0 ≤ quiet) (hrow : TermRow w a len z) :
    Calls Tryf.prog 3 #[.slice a len cap, .bool false, .int .u64 lt, .int .i64 quiet] w fun e w' => e = .returned (.bool true) ∧ Below w.heap.size w w' := by
  have R := hid hrow
  clear hrow
  go_enter Tryf.func3, Tryf.ntmps3
  go_wp2_with (first | (go_at_call 5; go_in))
  refine (nondec_any a len cap z _ (by omega) hlc R.out).mono ?_
  rintro e w1 ⟨r, rfl, n1, hw1⟩
  have B1 : Hid (Below w.heap.size w w1) := by rw [hw1]; exact drawn_below w n1
  clear hw1
  cases r with
  | false =>
    go_wp2_with fail
    go_ret
    exact ⟨rfl, B1.out⟩
  | true =>
    go_wp2_with fail
    refine (leader_no lt _).mono ?_
    rintro e _ ⟨rfl, rfl⟩
    have R1 := hid (R.out.below B1.out)
    go_wp2_with fail
    refine (entries_any a len cap z _ _ (by omega) hlc R1.out).mono ?_
    rintro e w2 ⟨g, rfl, hg, hE, hb2⟩
    have B2 := hid (below_next B1.out hb2)
    have E2 := hid hE
    clear hE hb2 B1
    go_wp2_with fail
    refine (checker_any (.bool true) g len _).mono ?_
    rintro e w3 ⟨rfl, hc3, hb3⟩
    have B3 := hid (below_next B2.out hb3)
    have C3 := hid (chk_mk E2.out hb3 hc3)
    clear E2 B2 hb3 hc3
    have L3 : Hid (Lead w3 (.pointer none) none) := rfl
    have F3 : Hid (F.answers w3.tape) := by rw [Hid, B3.out.tape]; exact hF
    go_wp2_with fail
    refine (zl_any F _ none _ len z quiet _ F3.out (by omega) hq C3.out L3.out).mono ?_
    rintro e w4 ⟨b4, s4, rfl, hb4, hh4, hbel4⟩
    have B4 := hid (below_next B3.out hbel4)
    have C4 := hid (C3.out.below hbel4)
    have F4 : Hid (F.answers w4.tape) := by rw [Hid, B4.out.tape]; exact hF
    have hp4 := viol_cell hh4
    clear hh4 hbel4 B3 C3 F3 L3
    go_wp2_with (go_at_call 11; refine (property_any _ _ _ hp4).mono ?_; rintro e _ ⟨rfl, rfl⟩)
    refine (zl_any F _ none _ len z len _ F4.out (by omega) (by omega) C4.out rfl).mono ?_
    rintro e w5 ⟨b5, s5, rfl, hb5, hh5, hbel5⟩
    have B5 := hid (below_next B4.out hbel5)
    have hp5 := viol_cell hh5
    clear hh5 hbel5 B4 C4 F4 hp4
    go_wp2_with (go_at_call 11; refine (property_any _ _ _ hp5).mono ?_; rintro e _ ⟨rfl, rfl⟩)
    go_ret
    exact ⟨rfl, B5.out⟩
end Go.Proofs.Qxb6613359aFmt
