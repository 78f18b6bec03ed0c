import Derived.Test.Qxb6613837aW3b
import Derived.ArgAppend
namespace Go.Proofs.Qxb6613837a
open Go.RowKit
set_option linter.unusedVariables false

theorem Try.info3 : (Try.prog.info? 3).map (fun i => (i.zero, i.size, i.bytes)) = some (some (.int .i64 0), 1, 8) := by kernel_rfl
theorem info3_ex : ∃ i, Try.prog.info? 3 = some i ∧ i.zero = some (.int .i64 0) ∧ i.size = 1 ∧ i.bytes = 8 := by
  have h := Try.info3
  cases e : Try.prog.info? 3 with
  | none => rw [e] at h; cases h
  | some i => rw [e] at h; simp at h; exact ⟨i, rfl, h.1, h.2.1, h.2.2⟩

/-- The queue: its own block, from off on. -/
def Que (w : World) (base : Nat) (v : Value) (q : List Nat) : Prop := ∃ b off cap cs t, v = .slice (some ⟨b, off, none⟩) q.length cap ∧ base ≤ b ∧ w.heap[b]? = some (.cells cs t (0, 0)) ∧ q.length ≤ cap ∧ cap ≤ maxLen ∧ off + cap ≤ cs.size ∧
  ∀ j, j < q.length → cs[off + j]? = some (.int .i64 (q.getD j 0 : Nat))
/-- Only blocks from base on have changed. -/
def Above (base : Nat) (w w' : World) : Prop := w'.os = w.os ∧ w'.tape = w.tape ∧ w'.output = w.output ∧ w.heap.size ≤ w'.heap.size ∧ ∀ b, b < base → b < w.heap.size → w'.heap[b]? = w.heap[b]?
theorem Que.of_block {w w' : World} {base : Nat} {v : Value} {q : List Nat} (h : Que w base v q) (hk : ∀ b, base ≤ b → b < w.heap.size → w'.heap[b]? = w.heap[b]?) : Que w' base v q := by
  obtain ⟨b, off, cap, cs, t, h1, h2, h3, h4⟩ := h
  exact ⟨b, off, cap, cs, t, h1, h2, (hk b h2 (lt_of_block h3)).trans h3, h4⟩
theorem Kept.above {ex : Nat → Prop} {w w1 w2 : World} (h : Kept ex w w1) (k : Above w.heap.size w1 w2) : Kept ex w w2 :=
  ⟨k.1.trans h.os, k.2.1.trans h.tape, k.2.2.1.trans h.output, Nat.le_trans h.size k.2.2.2.1, fun b hb he => (k.2.2.2.2 b hb (Nat.lt_of_lt_of_le hb h.size)).trans (h.block b hb he)⟩

theorem que_push {w : World} {base : Nat} {v : Value} {q : List Nat} (h : Que w base v q) (hb : base ≤ w.heap.size) (ad : Addr) (c x : Nat) (hc : w.cell? (ad.add 0) = some (.int .i64 (x : Int))) (hq : q.length ≤ 100000000) :
    ∃ v' w', (Builtin.append_ #[22, 22] 22 #[v, .slice (some ad) 1 c]).run Try.prog w = .ok v' w' ∧ Que w' base v' (q ++ [x]) ∧ Above base w w' := by
  obtain ⟨b, off, cap, cs, t, rfl, h2, h3, h4, h5, h6, h7⟩ := h
  obtain ⟨i3, hi3, hz3, hs3, hb3⟩ := info3_ex
  have hnews : ∀ j u, [Value.int .i64 (x : Int)][j]? = some u → w.cell? (ad.add j) = some u := by
    intro j u hu
    cases j with
    | zero => simp at hu; rw [hc, hu]
    | succ j => simp at hu
  by_cases hr : q.length + 1 ≤ cap
  · have hrun := run_append_room_cells (P := Try.prog) w 22 22 3 i3 Try.underlying22 hi3 b off q.length cap ad 1 c [.int .i64 (x : Int)] (by rw [hs3]; rfl) hnews (by intro u hu; simp at hu; subst hu; rfl) hr
      (by intro j hj; simp at hj; subst hj; rw [hs3]; simp only [World.cell?, h3]; have : off + q.length < cs.size := by omega
          simpa using this)
      (by intro j hj; simp [World.frozen?, h3])
    rw [hs3] at hrun
    refine ⟨_, _, hrun, ?_, ?_⟩
    · have hl : (q ++ [x]).length = q.length + 1 := by simp
      simp only [World.setCells, Nat.mul_one]
      refine ⟨b, off, cap, _, t, by rw [hl], h2, heap_setCell_same w b _ cs t _ h3, by rw [hl]; exact hr, h5, by simpa using h6, fun j hj => ?_⟩
      rw [hl] at hj
      by_cases e : j = q.length
      · subst e
        have hlt : off + q.length < cs.size := by omega
        simp [hlt]
      · rw [Array.getElem?_setIfInBounds_ne (by omega), h7 j (by omega), List.getD_eq_getElem?_getD, List.getD_eq_getElem?_getD, List.getElem?_append_left (by omega)]
    · simp only [World.setCells]
      exact ⟨rfl, rfl, rfl, by simp, fun b' hb' _ => Below.heap_setCell _ _ _ _ (fun e => by simp at e; omega)⟩
  · obtain ⟨v', w', hrun, r1, r2⟩ := run_append_arg_grows (P := Try.prog) w 22 22 3 i3 _ 1 8 Try.underlying22 hi3 hz3 hs3 hb3 rfl (by decide) ⟨b, off, none⟩ q.length cap (q.map fun y : Nat => .int .i64 (y : Int)) (by simp)
      (by intro j u hu
          rw [List.getElem?_map] at hu
          have hj : j < q.length := by
            rcases Nat.lt_or_ge j q.length with hj | hj
            · exact hj
            · rw [List.getElem?_eq_none hj] at hu; simp at hu
          have := h7 j hj
          rw [List.getElem?_eq_getElem hj] at hu
          rw [List.getD_eq_getElem?_getD, List.getElem?_eq_getElem hj] at this
          rw [Addr.add_lit]
          simp only [World.cell?, h3]
          simpa using this.trans (by simpa using hu))
      ad 1 c [.int .i64 (x : Int)] rfl hnews (by omega) (by simp only [maxLen]; omega) (by omega)
    refine ⟨v', w', hrun, ?_, ⟨r2.os, r2.tape, r2.output, r2.size, fun b' _ hb' => r2.block b' hb' (by simp)⟩⟩
    rcases r1.2 with ⟨_, h0⟩ | ⟨g, cap', cur, hv, hg, hblk, hn, hm, hsz, htake⟩
    · omega
    · refine ⟨g, 0, cap', cur, 3, by rw [hv]; simp, Nat.le_trans hb hg, hblk, by simpa using hn, hm, by omega, fun j hj => ?_⟩
      have hj' : j < q.length + 1 := by simpa using hj
      have : (cur.toList.take ((q.length + 1) * 1))[j]? = cur[0 + j]? := by
        rw [List.getElem?_take, if_pos (by omega)]; simp
      rw [← this, htake]
      by_cases e : j = q.length
      · subst e; simp
      · rw [List.getElem?_append_left (by simp; omega), List.getElem?_map, List.getD_eq_getElem?_getD, List.getElem?_append_left (by omega), List.getElem?_eq_getElem (by omega)]
        simp
theorem wpList_append_que (w : World) {ops : Array Oper} {rest : List Oper} {o : Oper} {a : Act} {Q : Exit → Act → World → Prop} (hgd : o.guard = none) (s x : Operand) (hty : o.type = 22)
    (ho : o.op = .call { callee := .builtin .append, args := #[s, x], argTypes := #[22, 22] }) (base : Nat) (v : Value) (q : List Nat) (hs : a.eval s = v) (h : Que w base v q) (hb : base ≤ w.heap.size) (ad : Addr) (c y : Nat)
    (hx : a.eval x = .slice (some ad) 1 c) (hc : w.cell? (ad.add 0) = some (.int .i64 (y : Int))) (hq : q.length ≤ 100000000)
    (hh : ∀ v' w', Que w' base v' (q ++ [y]) → Above base w w' → wpList Try.prog ops Q rest (a.put o.dst v') w') : wpList Try.prog ops Q (o :: rest) a w := by
  refine wpList_plain hgd fun K hK => ?_
  obtain ⟨v', w', hr, h2, h3⟩ := que_push h hb ad c y hc hq
  unfold Oper.wp execOp
  simp only [ho, resolve, invoke, builtin, Sem.run_bind, Sem.run_pure, Result.andThen_ok, List.map_toArray, List.map_cons, List.map_nil, hs, hx, hty, hr]
  exact hK _ _ (hh v' w' h2 h3)

section
variable {V m s : Nat} {out : Nat → List Nat} {head room : Nat → Nat}
theorem start_bi (hs : s < V) : BI V m head room s (fun _ => False) (upd (fun _ => (-1 : Int)) s 0) [s] ∧ [s].length + (V - Rch V (upd (fun _ => (-1 : Int)) s 0)) ≤ V := by
  have hr : Rch V (upd (fun _ => (-1 : Int)) s 0) = 1 := by
    have h0 : Rch V (fun _ => (-1 : Int)) = 0 := by
      unfold Rch
      rw [sumTo_congr (g := fun _ => 0) (fun i _ => by simp), sumTo_const]
      omega
    rw [Rch_upd hs (by simp) (by omega), h0]
  have one : ∀ v, 0 ≤ upd (fun _ => (-1 : Int)) s 0 v → v = s := by
    intro v hv
    by_cases e : v = s
    · exact e
    · rw [upd_ne _ _ e] at hv; omega
  refine ⟨⟨upd_same _ _ _, fun v hv => .inl (one v hv), fun v hv => ?_, fun e he hr ht hq hx => ?_, fun v hv => by rw [one v hv]; exact hs, fun v => ?_⟩, ?_⟩
  · rw [List.mem_singleton.1 hv, upd_same]; exact Int.le_refl _
  · exact absurd (List.mem_singleton.2 (one _ ht)) hq
  · rw [hr]
    by_cases e : v = s
    · rw [e, upd_same]; decide
    · rw [upd_ne _ _ e]; decide
  · rw [hr, List.length_singleton]; omega
theorem step_bi (hw : Wf V m out head) {d u : Nat} {lv : Nat → Int} {q : List Nat} (h : BI V m head room s (fun _ => False) lv (u :: q)) (hl : (u :: q).length + (V - Rch V lv) ≤ d + 1) :
    BI V m head room s (fun _ => False) (scan head room u (out u) lv q).1 (scan head room u (out u) lv q).2 ∧ (scan head room u (out u) lv q).2.length + (V - Rch V (scan head room u (out u) lv q).1) ≤ d := by
  have hu := h.qr u (List.mem_cons_self ..)
  have hb : BI V m head room s (fun x => x = u) lv q := ⟨h.root, h.pred, fun v hv => h.qr v (List.mem_cons_of_mem _ hv), fun e he hr ht hq hx => h.closed e he hr ht (fun h1 => by rcases List.mem_cons.1 h1 with h2 | h2; exact hx h2; exact hq h2) (fun h => h), h.lt, h.bound⟩
  obtain ⟨i1, i2, i3, i4⟩ := scan_bi hw (out u) lv q (fun e he => hw.mem u e he) hu hb
  refine ⟨⟨i1.root, i1.pred, i1.qr, fun e he hr ht hq hx => ?_, i1.lt, i1.bound⟩, ?_⟩
  · by_cases e1 : head (mate e) = u
    · exact i3 e (by rw [← e1]; exact hw.all e he) hr
    · exact i1.closed e he hr ht hq e1
  · have r1 := Rch_le V lv
    have r2 := Rch_le V (scan head room u (out u) lv q).1
    rw [List.length_cons] at hl
    omega
end
end Go.Proofs.Qxb6613837a
