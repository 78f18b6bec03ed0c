import Derived.Test.Qxb6613359aW1
namespace Go.Proofs.Qxb6613359a
open Go.RowKit

theorem Try.info9 : (Try.prog.info? 9).map (fun i => (i.zero, i.size, i.bytes)) = some (some (.string ByteArray.empty), 1, 16) := by kernel_rfl
theorem Try.info3 : (Try.prog.info? 3).map (fun i => (i.zero, i.size, i.bytes)) = some (some (.int .i64 0), 1, 8) := by kernel_rfl

/-- What the closure leaves as it was: every block below 'base' but its two variables. -/
structure Kp (base Bn Bv : Nat) (w w' : World) : Prop where
  os : w'.os = w.os
  tape : w'.tape = w.tape
  output : w'.output = w.output
  size : w.heap.size ≤ w'.heap.size
  block : ∀ k, k < base → k ≠ Bn → k ≠ Bv → w'.heap[k]? = w.heap[k]?

/-- The closure's two variables and the rows that they own. -/
structure Inv (base Bn Bv k : Nat) (xs ys : List Value) (w : World) : Prop where
  n : ∃ vn, w.heap[Bn]? = some (.cells #[vn] 23 (0, 0)) ∧ w.ownsRow base 9 1 vn k xs
  v : ∃ vv, w.heap[Bv]? = some (.cells #[vv] 24 (0, 0)) ∧ w.ownsRow base 3 1 vv k ys


theorem owns_block {w : World} {base : Nat} {e : TypeId} {v : Value} {n : Nat} {xs : List Value} (h : w.ownsRow base e 1 v n xs) : ∀ g, v.ownBlock = some g → base ≤ g ∧ ∃ cur, w.heap[g]? = some (.cells cur e (0, 0)) := by
  intro g hg
  rcases h.2 with ⟨rfl, _⟩ | ⟨g', cap, cur, rfl, hb, hh, _⟩
  · simp [Value.ownBlock] at hg
  · simp [Value.ownBlock] at hg
    subst hg
    exact ⟨hb, cur, hh⟩

/-- An append to the row of one variable, and the store of the new slice into that variable: what became of all that there is. -/
theorem app_step {w w1 : World} {base B B' k k' m : Nat} {T T' e e' : TypeId} {v v' vo : Value} {xs xs' ys : List Value} (o : Obj)
    (hB : w.heap[B]? = some (.cells #[v] T (0, 0))) (hB' : w.heap[B']? = some (.cells #[vo] T' (0, 0))) (hBb : B < base) (hBb' : B' < base) (hne : ¬ B = B') (hbase : base ≤ w.heap.size) (hee : ¬ e = e')
    (ho : w.ownsRow base e 1 v k xs) (ho' : w.ownsRow base e' 1 vo k' ys) (hown' : w1.ownsRow base e 1 v' m xs') (hg : (w.alloc o).grownBy w1 v.ownBlock) :
    (w1.setCell ⟨B, 0, none⟩ v').heap[B]? = some (.cells #[v'] T (0, 0)) ∧ (w1.setCell ⟨B, 0, none⟩ v').ownsRow base e 1 v' m xs' ∧ (w1.setCell ⟨B, 0, none⟩ v').heap[B']? = some (.cells #[vo] T' (0, 0)) ∧
    (w1.setCell ⟨B, 0, none⟩ v').ownsRow base e' 1 vo k' ys ∧ w1.heap[B]? = some (.cells #[v] T (0, 0)) ∧ w.heap.size ≤ w1.heap.size ∧ (∀ j, j < base → j ≠ B → (w1.setCell ⟨B, 0, none⟩ v').heap[j]? = w.heap[j]?) ∧ w1.os = w.os ∧ w1.tape = w.tape ∧ w1.output = w.output ∧ (∀ j c t f, w.heap[j]? = some (.cells c t f) → t ≠ e → j ≠ B → (w1.setCell ⟨B, 0, none⟩ v').heap[j]? = some (.cells c t f)) := by
  have hob := owns_block ho
  have hob' := owns_block ho'
  have hs : w.heap.size < w1.heap.size := by have := hg.size; simp at this; omega
  have hold : ∀ j, j < base → w1.heap[j]? = w.heap[j]? := by
    intro j hj
    rw [hg.block j (by simp; omega) (fun e => by have := (hob j e.symm).1; omega), Below.heap_alloc _ _ _ (by omega)]
  have hset : ∀ j, j ≠ B → (w1.setCell ⟨B, 0, none⟩ v').heap[j]? = w1.heap[j]? := fun j hj => Below.heap_setCell _ _ _ _ hj
  have h1B : w1.heap[B]? = some (.cells #[v] T (0, 0)) := (hold B hBb).trans hB
  refine ⟨one_setCell h1B, ownsRow_setCell_below hown' hBb _, ?_, ?_, h1B, by omega, ?_, hg.os, hg.tape, hg.output, ?_⟩
  · rw [hset _ (fun e => hne e.symm), hold _ hBb', hB']
  · refine ownsRow_setCell_below ?_ hBb _
    refine (ho'.alloc o).kept hg ?_
    cases hvo : vo.ownBlock with
    | none => exact .inl rfl
    | some g =>
      refine .inr fun e => ?_
      obtain ⟨_, c1, h1⟩ := hob g e.symm
      obtain ⟨_, c2, h2⟩ := hob' g hvo
      rw [h1] at h2
      simp only [Option.some.injEq, Obj.cells.injEq] at h2
      exact hee h2.2.1
  · intro j hj hjB
    rw [hset j hjB, hold j hj]
  · intro j c t f hj ht hjB
    have hjs := lt_of_block hj
    rw [hset j hjB, hg.block j (by simp; omega) (fun e' => by
      obtain ⟨_, cur, hc⟩ := hob j e'.symm
      rw [hj] at hc
      simp only [Option.some.injEq, Obj.cells.injEq] at hc
      exact ht hc.2.1), Below.heap_alloc _ _ _ hjs, hj]

theorem news_one {W : World} {n : Nat} {t : TypeId} {v : Value} (h : W.heap.size = n) : ∀ j u, [v][j]? = some u → (W.alloc (.cells #[v] t)).cell? ((⟨n, 0, none⟩ : Addr).add j) = some u := by
  intro j u hj
  subst h
  match j, hj with
  | 0, hj =>
    simp at hj
    subst hj
    simp [Addr.add]

theorem owns_form {w : World} {base : Nat} {e : TypeId} {v : Value} {n : Nat} {xs : List Value} (h : w.ownsRow base e 1 v (n + 1) xs) : ∃ g cap, v = .slice (some ⟨g, 0, none⟩) (n + 1) cap := by
  rcases h.2 with ⟨_, h0⟩ | ⟨g, cap, cur, hv, _⟩
  · omega
  · exact ⟨g, cap, hv⟩

set_option maxRecDepth 100000 in
set_option maxHeartbeats 400000 in
theorem clo_any (nm : ByteArray) (n : Int) (Bn Bv base k : Nat) (xs ys : List Value) (w : World) (hn : Bn < base) (hv : Bv < base) (hne : ¬ Bn = Bv) (hbase : base ≤ w.heap.size) (hk : k < 12) (h : Inv base Bn Bv k xs ys w) :
    Calls Try.prog 10 #[.string nm, .int .i64 n, .pointer (some ⟨Bn, 0, none⟩), .pointer (some ⟨Bv, 0, none⟩)] w fun e w' => e = .returned (.tuple #[]) ∧ Inv base Bn Bv (k + 1) (xs ++ [.string nm]) (ys ++ [.int .i64 n]) w' ∧ Kp base Bn Bv w w' ∧ (∀ j c t f, w.heap[j]? = some (.cells c t f) → t ≠ 9 → t ≠ 3 → j ≠ Bn → j ≠ Bv → w'.heap[j]? = some (.cells c t f)) := by
  obtain ⟨⟨vn, hBn, hon⟩, ⟨vv, hBv, hov⟩⟩ := h
  obtain ⟨i9, hi9, hz9, hs9, hb9⟩ := info_parts Try.info9
  obtain ⟨i3, hi3, hz3, hs3, hb3⟩ := info_parts Try.info3
  have hcn := cell_of_one hBn
  have hfn := free_of_one hBn
  have HB : Hid (w.heap[Bn]? = some (.cells #[vn] 23 (0, 0)) ∧ w.heap[Bv]? = some (.cells #[vv] 24 (0, 0))) := ⟨hBn, hBv⟩
  clear hBn hBv
  go_enter Try.func10, Try.ntmps10
  go_wp2_with (first | (at_builtin; refine wpList_append_own _ rfl (.tmp 6) (.tmp 8) 23 rfl base 9 i9 (.string ByteArray.empty) 1 16 Try.underlying23 hi9 hz9 hs9 hb9 rfl (by decide) vn k xs rfl (hon.alloc _) ⟨w.heap.size, 0, none⟩ 1 1 [.string nm] rfl rfl (news_one (by simp)) (by intro u hu; simp at hu; subst hu; rfl) (by unfold maxLen; omega) (by omega) (by simp; omega) ?_))
  intro v' w1 hown' hgrow _
  obtain ⟨g, cap, rfl⟩ := owns_form hown'
  obtain ⟨q1, q2, q3, q4, q5, q6, q7, q8, q9, q10, q11⟩ := app_step _ HB.out.1 HB.out.2 hn hv hne hbase (by decide) hon hov hown' hgrow
  have hc1 := cell_of_one q5
  have hf1 := free_of_one q5
  have hc2 := cell_of_one q3
  have hf2 := free_of_one q3
  have HH : Hid _ := And.intro q1 (And.intro q3 (And.intro q7 (And.intro q8 (And.intro q9 (And.intro q10 q11)))))
  clear q1 q3 q5 q7 q8 q9 q10 q11 hown' hgrow hcn hfn hon hov
  go_wp2_with (first | (at_builtin; refine wpList_append_own _ rfl (.tmp 10) (.tmp 12) 24 rfl base 3 i3 (.int .i64 0) 1 8 Try.underlying24 hi3 hz3 hs3 hb3 rfl (by decide) vv k ys rfl (q4.alloc _) ⟨w1.heap.size, 0, none⟩ 1 1 [.int .i64 n] rfl rfl (news_one (by simp)) (by intro u hu; simp at hu; subst hu; rfl) (by unfold maxLen; omega) (by omega) (by simp; omega) ?_))
  intro v2 w2 hown2 hgrow2 _
  obtain ⟨g2, cap2, rfl⟩ := owns_form hown2
  obtain ⟨p1, p3, p7, p8, p9, p10, p11⟩ := HH.out
  obtain ⟨r1, r2, r3, r4, r5, r6, r7, r8, r9, r10, r11⟩ := app_step _ p3 p1 hv hn (fun e => hne e.symm) (by simp; omega) (by decide) q4 q2 hown2 hgrow2
  have hc3 := cell_of_one r5
  have hf3 := free_of_one r5
  have K : Hid (Inv base Bn Bv (k + 1) (xs ++ [.string nm]) (ys ++ [.int .i64 n]) (w2.setCell ⟨Bv, 0, none⟩ (.slice (some ⟨g2, 0, none⟩) (k + 1) cap2)) ∧ Kp base Bn Bv w (w2.setCell ⟨Bv, 0, none⟩ (.slice (some ⟨g2, 0, none⟩) (k + 1) cap2)) ∧ (∀ j c t f, w.heap[j]? = some (.cells c t f) → t ≠ 9 → t ≠ 3 → j ≠ Bn → j ≠ Bv → (w2.setCell ⟨Bv, 0, none⟩ (.slice (some ⟨g2, 0, none⟩) (k + 1) cap2)).heap[j]? = some (.cells c t f))) := by
    refine ⟨⟨⟨_, r3, r4⟩, ⟨_, r1, r2⟩⟩, ⟨r8.trans p8, r9.trans p9, r10.trans p10, by simp at r6; simp; omega, fun j hj h1 h2 => (r7 j hj h2).trans (p7 j hj h1)⟩, fun j c t f hj h9 h3 hb1 hb2 => r11 j c t f (p11 j c t f hj h9 hb1) h3 hb2⟩
  clear HH p1 p3 p7 p8 p9 p10 p11 r1 r2 r3 r4 r5 r7 r8 r9 r10 r11 q2 q4 hown2 hgrow2 hc1 hf1 hc2 hf2
  go_wp2_with fail
  go_end0
  exact ⟨rfl, K.out⟩
end Go.Proofs.Qxb6613359a
