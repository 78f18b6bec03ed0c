import Derived.Test.Qxb6613837aW7
import Derived.Deep.AppendLies
namespace Go.Proofs.Qxb6613837a
open Go.RowKit
set_option linter.unusedVariables false

abbrev nums (l : List Nat) : List Value := l.map fun x : Nat => Value.int .i64 (x : Int)

/-- A family of rows that grow, each in its own block. -/
structure Fam (w : World) (base n : Nat) (A : Nat → Option Addr) (cp : Nat → Nat) (ls : Nat → List Nat) : Prop where
  own : ∀ i, i < n → w.ownsRow base 3 1 (.slice (A i) (ls i).length (cp i)) (ls i).length (nums (ls i))
  inj : ∀ i j b, i < n → j < n → i ≠ j → A i = some ⟨b, 0, none⟩ → A j ≠ some ⟨b, 0, none⟩
def Foot (n : Nat) (A : Nat → Option Addr) (b : Nat) : Prop := ∃ i, i < n ∧ A i = some ⟨b, 0, none⟩

theorem own_form {w : World} {base : Nat} {a : Option Addr} {n c : Nat} {xs : List Value} (h : w.ownsRow base 3 1 (.slice a n c) n xs) : (a = none ∧ n = 0 ∧ c = 0) ∨ ∃ b cur, a = some ⟨b, 0, none⟩ ∧ base ≤ b ∧ b < w.heap.size ∧ w.heap[b]? = some (.cells cur 3 (0, 0)) ∧ n ≤ c ∧ c ≤ maxLen ∧ cur.size = c * 1 ∧ cur.toList.take (n * 1) = xs := by
  rcases h.2 with ⟨h1, h2⟩ | ⟨g, cap, cur, h1, h2, h3, h4⟩
  · simp only [Value.slice.injEq] at h1
    exact .inl ⟨h1.1, h1.2.1, h1.2.2⟩
  · simp only [Value.slice.injEq, true_and] at h1
    obtain ⟨h1, rfl⟩ := h1
    exact .inr ⟨g, cur, h1, h2, lt_of_block h3, h3, h4⟩
theorem own_block {a : Option Addr} {n c b : Nat} (h : a = some ⟨b, 0, none⟩) : (Value.slice a n c).ownBlock = some b := by subst h; rfl
theorem own_none {a : Option Addr} {n c : Nat} (h : a = none) : (Value.slice a n c).ownBlock = none := by subst h; rfl
/-- A row lies as it lay where its block does. -/
theorem own_of_block {w w' : World} {base : Nat} {a : Option Addr} {n c : Nat} {xs : List Value} (h : w.ownsRow base 3 1 (.slice a n c) n xs) (k : ∀ b, a = some ⟨b, 0, none⟩ → w'.heap[b]? = w.heap[b]?) : w'.ownsRow base 3 1 (.slice a n c) n xs := by
  refine ⟨h.1, ?_⟩
  rcases h.2 with h1 | ⟨g, cap, cur, h1, h2, h3, h4⟩
  · exact .inl h1
  · refine .inr ⟨g, cap, cur, h1, h2, ?_, h4⟩
    simp only [Value.slice.injEq] at h1
    rw [k g h1.1]; exact h3
theorem Fam.foot_lt {w : World} {base n : Nat} {A : Nat → Option Addr} {cp : Nat → Nat} {ls : Nat → List Nat} (F : Fam w base n A cp ls) {b : Nat} (h : Foot n A b) : base ≤ b ∧ b < w.heap.size := by
  obtain ⟨i, hi, ha⟩ := h
  rcases own_form (F.own i hi) with ⟨h1, _⟩ | ⟨b', cur, h1, h2, h3, _⟩
  · rw [h1] at ha; cases ha
  · rw [ha] at h1; simp only [Option.some.injEq, Addr.mk.injEq] at h1; obtain ⟨rfl, _⟩ := h1; exact ⟨h2, h3⟩
theorem Fam.of_block {w w' : World} {base n : Nat} {A : Nat → Option Addr} {cp : Nat → Nat} {ls : Nat → List Nat} (F : Fam w base n A cp ls) (k : ∀ b, Foot n A b → w'.heap[b]? = w.heap[b]?) : Fam w' base n A cp ls :=
  ⟨fun i hi => own_of_block (F.own i hi) (fun b hb => k b ⟨i, hi, hb⟩), F.inj⟩
theorem Fam.alloc {w : World} {base n : Nat} {A : Nat → Option Addr} {cp : Nat → Nat} {ls : Nat → List Nat} (F : Fam w base n A cp ls) (o : Obj) : Fam (w.alloc o) base n A cp ls := F.of_block fun b hb => Below.heap_alloc w o b (F.foot_lt hb).2
theorem Fam.drew {w : World} {base n : Nat} {A : Nat → Option Addr} {cp : Nat → Nat} {ls : Nat → List Nat} (F : Fam w base n A cp ls) : Fam w.drew base n A cp ls := F.of_block fun b hb => rfl
theorem Fam.congr {w : World} {base n : Nat} {A A' : Nat → Option Addr} {cp cp' : Nat → Nat} {ls ls' : Nat → List Nat} (F : Fam w base n A cp ls) (h1 : ∀ i, i < n → A' i = A i) (h2 : ∀ i, i < n → cp' i = cp i) (h3 : ∀ i, i < n → ls' i = ls i) : Fam w base n A' cp' ls' :=
  ⟨fun i hi => by rw [h1 i hi, h2 i hi, h3 i hi]; exact F.own i hi, fun i j b hi hj => by rw [h1 i hi, h1 j hj]; exact F.inj i j b hi hj⟩

/-- One row grows. -/
theorem fam_append {w : World} {base n : Nat} {A : Nat → Option Addr} {cp : Nat → Nat} {ls : Nat → List Nat} (F : Fam w base n A cp ls) {i : Nat} (hi : i < n) (ad : Addr) (m c : Nat) (news : List Nat) (hl : news.length = m)
    (hnews : ∀ j u, (nums news)[j]? = some u → w.cell? (ad.add j) = some u) (hm : 0 < m) (hlen : (ls i).length + m ≤ 100000000) (hbase : base ≤ w.heap.size) (ty : TypeId) :
    ∃ g cap w', (Builtin.append_ #[22, 22] ty #[.slice (A i) (ls i).length (cp i), .slice (some ad) m c]).run Try.prog w = .ok (.slice (some ⟨g, 0, none⟩) ((ls i).length + m) cap) w' ∧
      Fam w' base n (upd A i (some ⟨g, 0, none⟩)) (upd cp i cap) (upd ls i (ls i ++ news)) ∧ w.grownBy w' (Value.slice (A i) (ls i).length (cp i)).ownBlock ∧ (A i = some ⟨g, 0, none⟩ ∨ g = w.heap.size) := by
  obtain ⟨i3, hi3, hz3, hs3, hb3⟩ := info3_ex
  obtain ⟨g, cap, w', hr, h2, h3, h4, h5⟩ := run_append_lies (P := Try.prog) w 22 ty base 3 i3 (.int .i64 0) 1 8 Try.underlying22 hi3 hz3 hs3 hb3 rfl (by decide) _ _ _ (F.own i hi) ad m c (nums news) (by simp [hl]) hnews
    (by intro u hu; rw [List.mem_map] at hu; obtain ⟨x, _, rfl⟩ := hu; rfl) hm (by simp only [maxLen]; omega) (by omega) hbase w.heap.size rfl
  have hat : A i = some ⟨g, 0, none⟩ ∨ g = w.heap.size := by
    rcases h4 with h4 | h4
    · rcases own_form (F.own i hi) with ⟨h1, _⟩ | ⟨b, cur, h1, _⟩
      · rw [own_none h1] at h4; cases h4
      · rw [own_block h1] at h4; simp only [Option.some.injEq] at h4; subst h4; exact .inl h1
    · exact .inr h4
  refine ⟨g, cap, w', hr, ⟨fun j hj => ?_, fun j j' b hj hj' hne hb => ?_⟩, h3, hat⟩
  · by_cases e : j = i
    · subst e
      rw [upd_same, upd_same, upd_same, List.length_append, hl]
      have : nums (ls j ++ news) = nums (ls j) ++ nums news := List.map_append
      rw [this]
      exact h2
    · rw [upd_ne _ _ e, upd_ne _ _ e, upd_ne _ _ e]
      refine own_of_block (F.own j hj) fun b hb => h3.block b (F.foot_lt ⟨j, hj, hb⟩).2 fun hc => ?_
      rcases own_form (F.own i hi) with ⟨h1, _⟩ | ⟨b', cur, h1, _⟩
      · rw [own_none h1] at hc; cases hc
      · rw [own_block h1] at hc; simp only [Option.some.injEq] at hc; subst hc; exact F.inj j i b hj hi e hb h1
  · by_cases e : j = i
    · subst e
      rw [upd_same] at hb
      simp only [Option.some.injEq, Addr.mk.injEq, and_true] at hb
      subst hb
      rw [upd_ne _ _ (fun h => hne h.symm)]
      rcases hat with hat | hat
      · exact F.inj j j' g hj hj' hne hat
      · intro hc
        have := (F.foot_lt ⟨j', hj', hc⟩).2
        omega
    · rw [upd_ne _ _ e] at hb
      by_cases e' : j' = i
      · subst e'
        rw [upd_same]
        intro hc
        simp only [Option.some.injEq, Addr.mk.injEq, and_true] at hc
        subst hc
        rcases hat with hat | hat
        · exact F.inj j j' g hj hj' hne hb hat
        · have := (F.foot_lt ⟨j, hj, hb⟩).2
          omega
      · rw [upd_ne _ _ e']; exact F.inj j j' b hj hj' hne hb

theorem wp_append_fam {o : Oper} {a : Act} {K : Act → World → Prop} {Q : Exit → Act → World → Prop} (s x : Operand)
    (ho : o.op = .call { callee := .builtin .append, args := #[s, x], argTypes := #[22, 22] }) {w : World} {base n : Nat} {A : Nat → Option Addr} {cp : Nat → Nat} {ls : Nat → List Nat} (F : Fam w base n A cp ls) {i : Nat} (hi : i < n)
    (ad : Addr) (m c : Nat) (news : List Nat) (hs : a.eval s = .slice (A i) (ls i).length (cp i)) (hx : a.eval x = .slice (some ad) m c) (hl : news.length = m) (hnews : ∀ j u, (nums news)[j]? = some u → w.cell? (ad.add j) = some u) (hm : 0 < m) (hlen : (ls i).length + m ≤ 100000000) (hbase : base ≤ w.heap.size)
    (h : ∀ g cap w', Fam w' base n (upd A i (some ⟨g, 0, none⟩)) (upd cp i cap) (upd ls i (ls i ++ news)) → w.grownBy w' (Value.slice (A i) (ls i).length (cp i)).ownBlock → (A i = some ⟨g, 0, none⟩ ∨ g = w.heap.size) → K (a.put o.dst (.slice (some ⟨g, 0, none⟩) ((ls i).length + m) cap)) w') : o.wp Try.prog a w K Q := by
  obtain ⟨g, cap, w', hr, h2, h3, h4⟩ := fam_append F hi ad m c news hl hnews hm hlen hbase o.type
  unfold Oper.wp execOp
  simp only [ho, resolve, invoke, builtin, Sem.run_bind, Sem.run_pure, Result.andThen_ok, List.map_toArray, List.map_cons, List.map_nil, hs, hx, hr]
  exact h g cap w' h2 h3 h4
theorem wpList_append_fam {ops : Array Oper} {rest : List Oper} {o : Oper} {a : Act} {Q : Exit → Act → World → Prop} (hgd : o.guard = none) (s x : Operand)
    (ho : o.op = .call { callee := .builtin .append, args := #[s, x], argTypes := #[22, 22] }) {w : World} {base n : Nat} {A : Nat → Option Addr} {cp : Nat → Nat} {ls : Nat → List Nat} (F : Fam w base n A cp ls) {i : Nat} (hi : i < n)
    (ad : Addr) (m c : Nat) (news : List Nat) (hs : a.eval s = .slice (A i) (ls i).length (cp i)) (hx : a.eval x = .slice (some ad) m c) (hl : news.length = m) (hnews : ∀ j u, (nums news)[j]? = some u → w.cell? (ad.add j) = some u) (hm : 0 < m) (hlen : (ls i).length + m ≤ 100000000) (hbase : base ≤ w.heap.size)
    (h : ∀ g cap w', Fam w' base n (upd A i (some ⟨g, 0, none⟩)) (upd cp i cap) (upd ls i (ls i ++ news)) → w.grownBy w' (Value.slice (A i) (ls i).length (cp i)).ownBlock → (A i = some ⟨g, 0, none⟩ ∨ g = w.heap.size) → wpList Try.prog ops Q rest (a.put o.dst (.slice (some ⟨g, 0, none⟩) ((ls i).length + m) cap)) w') : wpList Try.prog ops Q (o :: rest) a w :=
  wpList_plain hgd fun K hK => wp_append_fam s x ho F hi ad m c news hs hx hl hnews hm hlen hbase fun g cap w' h2 h3 h4 => hK _ _ (h g cap w' h2 h3 h4)
theorem step_append_fam {ops : Array Oper} {o : Oper} {a : Act} {K : Act → World → Prop} {Q : Exit → Act → World → Prop} {E : Prop} (hgd : o.guard = none) (s x : Operand)
    (ho : o.op = .call { callee := .builtin .append, args := #[s, x], argTypes := #[22, 22] }) {w : World} {base n : Nat} {A : Nat → Option Addr} {cp : Nat → Nat} {ls : Nat → List Nat} (F : Fam w base n A cp ls) {i : Nat} (hi : i < n)
    (ad : Addr) (m c : Nat) (news : List Nat) (hs : a.eval s = .slice (A i) (ls i).length (cp i)) (hx : a.eval x = .slice (some ad) m c) (hl : news.length = m) (hnews : ∀ j u, (nums news)[j]? = some u → w.cell? (ad.add j) = some u) (hm : 0 < m) (hlen : (ls i).length + m ≤ 100000000) (hbase : base ≤ w.heap.size)
    (h : ∀ g cap w', Fam w' base n (upd A i (some ⟨g, 0, none⟩)) (upd cp i cap) (upd ls i (ls i ++ news)) → w.grownBy w' (Value.slice (A i) (ls i).length (cp i)).ownBlock → (A i = some ⟨g, 0, none⟩ ∨ g = w.heap.size) → K (a.put o.dst (.slice (some ⟨g, 0, none⟩) ((ls i).length + m) cap)) w') :
    if Region.wanted o (yielded ops a.tmps) = true then Oper.wp Try.prog o a w K Q else E := by
  have hw : Region.wanted o (yielded ops a.tmps) = true := by simp [Region.wanted, hgd]
  rw [if_pos hw]
  exact wp_append_fam s x ho F hi ad m c news hs hx hl hnews hm hlen hbase h
end Go.Proofs.Qxb6613837a
