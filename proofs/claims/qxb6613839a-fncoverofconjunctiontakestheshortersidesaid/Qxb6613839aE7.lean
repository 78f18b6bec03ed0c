import Derived.Test.Qxb6613839aE6
import Derived.Laws.AppendOwnNone
namespace Go.Proofs.Qxb6613839a
open Go.RowKit
set_option linter.unusedVariables false
set_option linter.unusedSimpArgs false

abbrev Tm := List (ByteArray × ByteArray)

/-- A slice of terms somewhere in memory. -/
def Src (w : World) (a : Option Addr) (n c : Nat) (l : Tm) : Prop := w.ownsRow 0 32 2 (.slice a n c) l.length (tcells l)

theorem Src.form {w : World} {a : Option Addr} {n c : Nat} {l : Tm} (h : Src w a n c l) : n = l.length ∧ ((a = none ∧ l = [] ∧ c = 0) ∨ ∃ g, a = some ⟨g, 0, none⟩ ∧ g < w.heap.size) := by
  rcases h.2 with ⟨h1, h2⟩ | ⟨g, cap, cur, h1, _, hh, _⟩
  · simp at h1
    obtain ⟨rfl, rfl, rfl⟩ := h1
    exact ⟨h2.symm, .inl ⟨rfl, List.eq_nil_of_length_eq_zero h2, rfl⟩⟩
  · simp at h1
    obtain ⟨rfl, rfl, rfl⟩ := h1
    exact ⟨rfl, .inr ⟨g, rfl, lt_of_block hh⟩⟩

theorem Src.below {w w' : World} {a : Option Addr} {n c : Nat} {l : Tm} (h : Src w a n c l) (hb : Below w.heap.size w w') : Src w' a n c l := owns_below2 h hb

/-- Behind an append to a row of the call's own, an older slice is as it was. -/
theorem Src.grown {w w1 w2 : World} {a : Option Addr} {n c B : Nat} {l : Tm} {v : Value} {m : Nat} {xs : List Value} (h : Src w a n c l) (hb : Below w.heap.size w w1) (hv : w1.ownsRow w.heap.size 32 2 v m xs) (hg : w1.grownBy w2 v.ownBlock) : Src w2 a n c l := by
  refine (h.below hb).kept hg ?_
  rcases h.form.2 with ⟨rfl, _, _⟩ | ⟨g, rfl, hlt⟩
  · exact .inl rfl
  · refine .inr fun e => ?_
    have := (hv.lt g e.symm).1
    omega

theorem Src.news {w : World} {g n c : Nat} {l : Tm} (h : Src w (some ⟨g, 0, none⟩) n c l) : ∀ j u, (tcells l)[j]? = some u → w.cell? ((⟨g, 0, none⟩ : Addr).add j) = some u := h.cells rfl

theorem below_app {W w1 w2 : World} {v : Value} {m : Nat} {xs : List Value} (hb : Below W.heap.size W w1) (hv : w1.ownsRow W.heap.size 32 2 v m xs) (hg : w1.grownBy w2 v.ownBlock) : Below W.heap.size W w2 :=
  hb.grown hg hb.size (fun k hk => (hv.lt k hk).1)

theorem grow_at (z : Int) (h0 : 0 ≤ z) (h1 : z ≤ 1000000) (w : World) :
    Calls Try.prog 32 #[.slice none 0 0, .int .i64 z] w fun e w' => ∃ v, e = .returned v ∧ w'.ownsRow w.heap.size 32 2 v 0 [] ∧ Below w.heap.size w w' := by
  obtain ⟨n, rfl⟩ := Int.eq_ofNat_of_zero_le h0
  exact grow_nil n (by omega) w

theorem cell_keep {w w1 : World} {p : Addr} {v : Value} (h : w.cell? p = some v) (hb : Below w.heap.size w w1) : w1.cell? p = some v := (hb.cell (World.block_lt_of_cell? w _ h)).trans h
theorem cell_grown {w w1 w2 : World} {p : Addr} {u v : Value} {m : Nat} {xs : List Value} (h : w.cell? p = some u) (hb : Below w.heap.size w w1) (hv : w1.ownsRow w.heap.size 32 2 v m xs) (hg : w1.grownBy w2 v.ownBlock) : w2.cell? p = some u :=
  cell_keep h (below_app hb hv hg)


set_option maxRecDepth 100000 in
set_option maxHeartbeats 1000000 in
theorem concat_ss (gs ga ca gb cb : Nat) (la lb : Tm) (w : World) (h0 : w.cell? ⟨gs, 0, none⟩ = some (.slice (some ⟨ga, 0, none⟩) la.length ca)) (h1 : w.cell? ⟨gs, 1, none⟩ = some (.slice (some ⟨gb, 0, none⟩) lb.length cb))
    (hA : Src w (some ⟨ga, 0, none⟩) la.length ca la) (hB : Src w (some ⟨gb, 0, none⟩) lb.length cb lb) (hla : la.length + lb.length ≤ 100000) :
    Calls Try.prog 31 #[.slice (some ⟨gs, 0, none⟩) 2 2] w fun e w' => ∃ v, e = .returned v ∧ w'.ownsRow w.heap.size 32 2 v (la ++ lb).length (tcells (la ++ lb)) ∧ Below w.heap.size w w' := by
  obtain ⟨i, hi, hz, hs, hbb⟩ := info_parts Try.info32
  have SA : Hid (Src w (some ⟨ga, 0, none⟩) la.length ca la) := hA
  clear hA
  have SB : Hid (Src w (some ⟨gb, 0, none⟩) lb.length cb lb) := hB
  clear hB
  have H0 := hid h0
  have H1 := hid h1
  go_enter Try.func31, Try.ntmps31
  go_wp2_with fail
  refine wp_loop_rounds 3 ?_
  rw [rounds_succ]
  go_wp2_with fail
  rw [rounds_succ]
  go_wp2_with fail
  rw [rounds_succ]
  go_wp2_with fail
  refine (grow_at _ (by omega) (by omega) _).mono ?_
  rintro e w1 ⟨v, rfl, hv, hb1⟩
  have V1 := hid hv
  have B1 := hid hb1
  clear hv hb1 h0 h1
  have h0 := cell_keep H0.out B1.out
  have h1 := cell_keep H1.out B1.out
  go_wp2_with fail
  refine wp_loop_rounds 3 ?_
  rw [rounds_succ]
  go_wp2_with (at_builtin; refine wpList_append_own _ rfl (.tmp 31) (.tmp 32) 28 rfl w.heap.size 32 i (.agg #[.string ⟨#[]⟩, .string ⟨#[]⟩]) 2 32 Try.underlying28 hi hz hs hbb rfl (by decide) v 0 [] rfl V1.out ⟨ga, 0, none⟩ la.length ca (tcells la) rfl (tcells_length la) (Src.news (SA.out.below B1.out)) (tcells_one la) (by unfold maxLen; omega) (by omega) B1.out.size ?_)
  intro v2 w2 hv2 hg2 _
  try simp only [Nat.zero_add, List.nil_append] at hv2
  have V2 := hid hv2
  have B2 := hid (below_app B1.out V1.out hg2)
  have S2 := hid (SB.out.grown (B := 0) B1.out V1.out hg2)
  clear h0 h1 hv2
  have h0 := cell_grown H0.out B1.out V1.out hg2
  have h1 := cell_grown H1.out B1.out V1.out hg2
  clear hg2
  go_wp2_with fail
  rw [rounds_succ]
  go_wp2_with (at_builtin; refine wpList_append_own _ rfl (.tmp 31) (.tmp 32) 28 rfl w.heap.size 32 i (.agg #[.string ⟨#[]⟩, .string ⟨#[]⟩]) 2 32 Try.underlying28 hi hz hs hbb rfl (by decide) v2 la.length (tcells la) rfl V2.out ⟨gb, 0, none⟩ lb.length cb (tcells lb) rfl (tcells_length lb) (Src.news S2.out) (tcells_one lb) (by unfold maxLen; omega) (by omega) B2.out.size ?_)
  intro v3 w3 hv3 hg3 _
  have V3 := hid hv3
  have B3 := hid (below_app B2.out V2.out hg3)
  clear h0 h1 hv3 hg3
  go_wp2_with fail
  rw [rounds_succ]
  go_wp2_with fail
  go_ret
  have V := V3.out
  rw [← tcells_append, ← List.length_append] at V
  exact ⟨_, rfl, V, B3.out⟩

set_option maxRecDepth 100000 in
set_option maxHeartbeats 1000000 in
theorem concat_sn (gs ga ca : Nat) (la : Tm) (w : World) (h0 : w.cell? ⟨gs, 0, none⟩ = some (.slice (some ⟨ga, 0, none⟩) la.length ca)) (h1 : w.cell? ⟨gs, 1, none⟩ = some (.slice none 0 0))
    (hA : Src w (some ⟨ga, 0, none⟩) la.length ca la) (hla : la.length ≤ 100000) :
    Calls Try.prog 31 #[.slice (some ⟨gs, 0, none⟩) 2 2] w fun e w' => ∃ v, e = .returned v ∧ w'.ownsRow w.heap.size 32 2 v la.length (tcells la) ∧ Below w.heap.size w w' := by
  obtain ⟨i, hi, hz, hs, hbb⟩ := info_parts Try.info32
  have SA : Hid (Src w (some ⟨ga, 0, none⟩) la.length ca la) := hA
  clear hA
  have H0 := hid h0
  have H1 := hid h1
  go_enter Try.func31, Try.ntmps31
  go_wp2_with fail
  refine wp_loop_rounds 3 ?_
  rw [rounds_succ]
  go_wp2_with fail
  rw [rounds_succ]
  go_wp2_with fail
  rw [rounds_succ]
  go_wp2_with fail
  refine (grow_at _ (by omega) (by omega) _).mono ?_
  rintro e w1 ⟨v, rfl, hv, hb1⟩
  have V1 := hid hv
  have B1 := hid hb1
  clear hv hb1 h0 h1
  have h0 := cell_keep H0.out B1.out
  have h1 := cell_keep H1.out B1.out
  go_wp2_with fail
  refine wp_loop_rounds 3 ?_
  rw [rounds_succ]
  go_wp2_with (at_builtin; refine wpList_append_own _ rfl (.tmp 31) (.tmp 32) 28 rfl w.heap.size 32 i (.agg #[.string ⟨#[]⟩, .string ⟨#[]⟩]) 2 32 Try.underlying28 hi hz hs hbb rfl (by decide) v 0 [] rfl V1.out ⟨ga, 0, none⟩ la.length ca (tcells la) rfl (tcells_length la) (Src.news (SA.out.below B1.out)) (tcells_one la) (by unfold maxLen; omega) (by omega) B1.out.size ?_)
  intro v2 w2 hv2 hg2 _
  try simp only [Nat.zero_add, List.nil_append] at hv2
  have V2 := hid hv2
  have B2 := hid (below_app B1.out V1.out hg2)
  clear h0 h1 hv2
  have h0 := cell_grown H0.out B1.out V1.out hg2
  have h1 := cell_grown H1.out B1.out V1.out hg2
  clear hg2
  go_wp2_with fail
  rw [rounds_succ]
  go_wp2_with (at_builtin; refine wpList_append_own_none rfl (.tmp 31) (.tmp 32) 28 rfl w.heap.size 32 i 2 Try.underlying28 hi v2 la.length (tcells la) rfl V2.out rfl ?_)
  go_wp2_with fail
  rw [rounds_succ]
  go_wp2_with fail
  go_ret
  have V := V2.out
  exact ⟨_, rfl, V, B2.out⟩

set_option maxRecDepth 100000 in
set_option maxHeartbeats 1000000 in
theorem concat_ns (gs gb cb : Nat) (lb : Tm) (w : World) (h0 : w.cell? ⟨gs, 0, none⟩ = some (.slice none 0 0)) (h1 : w.cell? ⟨gs, 1, none⟩ = some (.slice (some ⟨gb, 0, none⟩) lb.length cb))
    (hB : Src w (some ⟨gb, 0, none⟩) lb.length cb lb) (hla : lb.length ≤ 100000) :
    Calls Try.prog 31 #[.slice (some ⟨gs, 0, none⟩) 2 2] w fun e w' => ∃ v, e = .returned v ∧ w'.ownsRow w.heap.size 32 2 v lb.length (tcells lb) ∧ Below w.heap.size w w' := by
  obtain ⟨i, hi, hz, hs, hbb⟩ := info_parts Try.info32
  have SB : Hid (Src w (some ⟨gb, 0, none⟩) lb.length cb lb) := hB
  clear hB
  have H0 := hid h0
  have H1 := hid h1
  go_enter Try.func31, Try.ntmps31
  go_wp2_with fail
  refine wp_loop_rounds 3 ?_
  rw [rounds_succ]
  go_wp2_with fail
  rw [rounds_succ]
  go_wp2_with fail
  rw [rounds_succ]
  go_wp2_with fail
  refine (grow_at _ (by omega) (by omega) _).mono ?_
  rintro e w1 ⟨v, rfl, hv, hb1⟩
  have V1 := hid hv
  have B1 := hid hb1
  clear hv hb1 h0 h1
  have h0 := cell_keep H0.out B1.out
  have h1 := cell_keep H1.out B1.out
  go_wp2_with fail
  refine wp_loop_rounds 3 ?_
  rw [rounds_succ]
  go_wp2_with (at_builtin; refine wpList_append_own_none rfl (.tmp 31) (.tmp 32) 28 rfl w.heap.size 32 i 2 Try.underlying28 hi v 0 [] rfl V1.out rfl ?_)
  have S2 := hid (SB.out.below B1.out)
  go_wp2_with fail
  rw [rounds_succ]
  go_wp2_with (at_builtin; refine wpList_append_own _ rfl (.tmp 31) (.tmp 32) 28 rfl w.heap.size 32 i (.agg #[.string ⟨#[]⟩, .string ⟨#[]⟩]) 2 32 Try.underlying28 hi hz hs hbb rfl (by decide) v 0 [] rfl V1.out ⟨gb, 0, none⟩ lb.length cb (tcells lb) rfl (tcells_length lb) (Src.news S2.out) (tcells_one lb) (by unfold maxLen; omega) (by omega) B1.out.size ?_)
  intro v3 w3 hv3 hg3 _
  have V3 := hid hv3
  have B3 := hid (below_app B1.out V1.out hg3)
  clear h0 h1 hv3 hg3
  go_wp2_with fail
  rw [rounds_succ]
  go_wp2_with fail
  go_ret
  have V := V3.out
  try simp only [Nat.zero_add, List.nil_append] at V
  exact ⟨_, rfl, V, B3.out⟩

set_option maxRecDepth 100000 in
set_option maxHeartbeats 1000000 in
theorem concat_nn (gs : Nat) (w : World) (h0 : w.cell? ⟨gs, 0, none⟩ = some (.slice none 0 0)) (h1 : w.cell? ⟨gs, 1, none⟩ = some (.slice none 0 0))
    :
    Calls Try.prog 31 #[.slice (some ⟨gs, 0, none⟩) 2 2] w fun e w' => ∃ v, e = .returned v ∧ w'.ownsRow w.heap.size 32 2 v ([] : Tm).length (tcells ([] : Tm)) ∧ Below w.heap.size w w' := by
  obtain ⟨i, hi, hz, hs, hbb⟩ := info_parts Try.info32
  have H0 := hid h0
  have H1 := hid h1
  go_enter Try.func31, Try.ntmps31
  go_wp2_with fail
  refine wp_loop_rounds 3 ?_
  rw [rounds_succ]
  go_wp2_with fail
  rw [rounds_succ]
  go_wp2_with fail
  rw [rounds_succ]
  go_wp2_with fail
  refine (grow_at _ (by omega) (by omega) _).mono ?_
  rintro e w1 ⟨v, rfl, hv, hb1⟩
  have V1 := hid hv
  have B1 := hid hb1
  clear hv hb1 h0 h1
  have h0 := cell_keep H0.out B1.out
  have h1 := cell_keep H1.out B1.out
  go_wp2_with fail
  refine wp_loop_rounds 3 ?_
  rw [rounds_succ]
  go_wp2_with (at_builtin; refine wpList_append_own_none rfl (.tmp 31) (.tmp 32) 28 rfl w.heap.size 32 i 2 Try.underlying28 hi v 0 [] rfl V1.out rfl ?_)
  go_wp2_with fail
  rw [rounds_succ]
  go_wp2_with (at_builtin; refine wpList_append_own_none rfl (.tmp 31) (.tmp 32) 28 rfl w.heap.size 32 i 2 Try.underlying28 hi v 0 [] rfl V1.out rfl ?_)
  go_wp2_with fail
  rw [rounds_succ]
  go_wp2_with fail
  go_ret
  have V := V1.out
  exact ⟨_, rfl, V, B1.out⟩

/-- slices.Concat of two slices of terms. -/
theorem concat_any (gs : Nat) (a b : Option Addr) (na ca nb cb : Nat) (la lb : Tm) (w : World) (h0 : w.cell? ⟨gs, 0, none⟩ = some (.slice a na ca)) (h1 : w.cell? ⟨gs, 1, none⟩ = some (.slice b nb cb))
    (hA : Src w a na ca la) (hB : Src w b nb cb lb) (hla : la.length + lb.length ≤ 100000) :
    Calls Try.prog 31 #[.slice (some ⟨gs, 0, none⟩) 2 2] w fun e w' => ∃ v, e = .returned v ∧ w'.ownsRow w.heap.size 32 2 v (la ++ lb).length (tcells (la ++ lb)) ∧ Below w.heap.size w w' := by
  obtain ⟨rfl, fA⟩ := hA.form
  obtain ⟨rfl, fB⟩ := hB.form
  rcases fA with ⟨rfl, rfl, rfl⟩ | ⟨ga, rfl, _⟩
  · rcases fB with ⟨rfl, rfl, rfl⟩ | ⟨gb, rfl, _⟩
    · exact concat_nn gs w h0 h1
    · exact concat_ns gs gb cb lb w h0 h1 hB (by simp at hla; exact hla)
  · rcases fB with ⟨rfl, rfl, rfl⟩ | ⟨gb, rfl, _⟩
    · simpa using concat_sn gs ga ca la w h0 h1 hA (by simp at hla; exact hla)
    · exact concat_ss gs ga ca gb cb la lb w h0 h1 hA hB hla
end Go.Proofs.Qxb6613839a
