import Derived.Test.Qxb6613837aW9
namespace Go.Proofs.Qxb6613837a
open Go.RowKit
set_option linter.unusedVariables false

def cellOf (g O i : Nat) : Addr := if i = 0 then ⟨g, 1, none⟩ else if i = 1 then ⟨g, 2, none⟩ else ⟨O, i - 2, none⟩
theorem cellOf_block (g O i : Nat) : (cellOf g O i).block = g ∨ (cellOf g O i).block = O := by
  unfold cellOf
  split
  · exact .inl rfl
  · split
    · exact .inl rfl
    · exact .inr rfl
theorem cellOf_inj {g O i j : Nat} (h : g ≠ O) (hij : i ≠ j) : cellOf g O i ≠ cellOf g O j := by
  intro e
  unfold cellOf at e
  split at e <;> split at e <;> (try split at e) <;> (try split at e) <;> simp only [Addr.mk.injEq] at e <;> omega
theorem cellOf_f0 {g O i : Nat} (h : g ≠ O) : cellOf g O i ≠ ⟨g, 0, none⟩ := by
  intro e
  unfold cellOf at e
  split at e <;> (try split at e) <;> simp only [Addr.mk.injEq] at e <;> omega

/-- The network while it is built: the struct g, the table O, the rows. -/
structure St (w : World) (base g O V : Nat) (A : Nat → Option Addr) (cp : Nat → Nat) (ls : Nat → List Nat) : Prop where
  f0 : w.cell? ⟨g, 0, none⟩ = some (.slice (some ⟨O, 0, none⟩) V V)
  cell : ∀ i, i < V + 2 → w.cell? (cellOf g O i) = some (.slice (A i) (ls i).length (cp i))
  frg : ∀ i, w.frozen? ⟨g, i, none⟩ = false
  frO : ∀ i, w.frozen? ⟨O, i, none⟩ = false
  fam : Fam w base (V + 2) A cp ls
  xg : ¬ Foot (V + 2) A g
  xO : ¬ Foot (V + 2) A O
  gO : g ≠ O
section
variable {w w1 : World} {base g O V : Nat} {A : Nat → Option Addr} {cp : Nat → Nat} {ls : Nat → List Nat}
theorem St.glt (S : St w base g O V A cp ls) : g < w.heap.size := World.block_lt_of_cell? w _ S.f0
theorem St.block_lt (S : St w base g O V A cp ls) {i : Nat} (hi : i < V + 2) : (cellOf g O i).block < w.heap.size := World.block_lt_of_cell? w _ (S.cell i hi)
theorem St.Olt (S : St w base g O V A cp ls) (hV : 0 < V) : O < w.heap.size := by
  have := S.block_lt (i := 2) (by omega)
  exact this
theorem St.xcell (S : St w base g O V A cp ls) (i : Nat) : ¬ Foot (V + 2) A (cellOf g O i).block := by
  rcases cellOf_block g O i with e | e
  · rw [e]; exact S.xg
  · rw [e]; exact S.xO
/-- Nothing of it has changed. -/
theorem St.of_block (S : St w base g O V A cp ls) (hV : 0 < V) (k : ∀ b, b < w.heap.size → (b = g ∨ b = O ∨ Foot (V + 2) A b) → w1.heap[b]? = w.heap[b]?) : St w1 base g O V A cp ls := by
  refine ⟨?_, fun i hi => ?_, fun i => ?_, fun i => ?_, S.fam.of_block (fun b hb => k b (S.fam.foot_lt hb).2 (.inr (.inr hb))), S.xg, S.xO, S.gO⟩
  · rw [World.cell?_of_block (k g S.glt (.inl rfl))]; exact S.f0
  · rw [World.cell?_of_block (k _ (S.block_lt hi) (by rcases cellOf_block g O i with e | e; exact .inl e; exact .inr (.inl e)))]; exact S.cell i hi
  · rw [World.frozen?_of_block (k g S.glt (.inl rfl))]; exact S.frg i
  · rw [World.frozen?_of_block (k O (S.Olt hV) (.inr (.inl rfl)))]; exact S.frO i
theorem St.drew (S : St w base g O V A cp ls) : St w.drew base g O V A cp ls := ⟨S.f0, S.cell, S.frg, S.frO, S.fam.drew, S.xg, S.xO, S.gO⟩
/-- Behind the append, ahead of the store: the struct and the table as they were. -/
theorem St.mid (S : St w base g O V A cp ls) (hV : 0 < V) {i : Nat} (hi : i < V + 2) {o : Obj} {vo : Value} (hvo : vo = .slice (A i) (ls i).length (cp i)) (hg : (w.alloc o).grownBy w1 vo.ownBlock) :
    (∀ b, b < w.heap.size → ¬ Foot (V + 2) A b → w1.heap[b]? = w.heap[b]?) ∧ w1.cell? ⟨g, 0, none⟩ = some (.slice (some ⟨O, 0, none⟩) V V) ∧ (∀ j, j < V + 2 → w1.cell? (cellOf g O j) = some (.slice (A j) (ls j).length (cp j))) ∧ (∀ j, w1.frozen? ⟨g, j, none⟩ = false) ∧ (∀ j, w1.frozen? ⟨O, j, none⟩ = false) := by
  have k : ∀ b, b < w.heap.size → ¬ Foot (V + 2) A b → w1.heap[b]? = w.heap[b]? := by
    intro b hb hf
    rw [hg.block b (by simp; omega) (fun hc => ?_), Below.heap_alloc w o b hb]
    subst hvo
    rcases own_form (S.fam.own i hi) with ⟨h1, _⟩ | ⟨b', cur, h1, _⟩
    · rw [own_none h1] at hc; cases hc
    · rw [own_block h1] at hc; simp only [Option.some.injEq] at hc; subst hc; exact hf ⟨i, hi, h1⟩
  refine ⟨k, ?_, fun j hj => ?_, fun j => ?_, fun j => ?_⟩
  · rw [World.cell?_of_block (k g S.glt S.xg)]; exact S.f0
  · rw [World.cell?_of_block (k _ (S.block_lt hj) (S.xcell j))]; exact S.cell j hj
  · rw [World.frozen?_of_block (k g S.glt S.xg)]; exact S.frg j
  · rw [World.frozen?_of_block (k O (S.Olt hV) S.xO)]; exact S.frO j
/-- Behind the store. -/
theorem St.step (S : St w base g O V A cp ls) (hV : 0 < V) {i : Nat} (hi : i < V + 2) {o : Obj} {vo : Value} (hvo : vo = .slice (A i) (ls i).length (cp i)) (hg : (w.alloc o).grownBy w1 vo.ownBlock) {g' cap : Nat} {l : List Nat} (hat : A i = some ⟨g', 0, none⟩ ∨ w.heap.size ≤ g')
    (F1 : Fam w1 base (V + 2) (upd A i (some ⟨g', 0, none⟩)) (upd cp i cap) (upd ls i l)) {a : Addr} (ha : a = cellOf g O i) {n : Nat} (hn : n = l.length) :
    St (w1.setCell a (.slice (some ⟨g', 0, none⟩) n cap)) base g O V (upd A i (some ⟨g', 0, none⟩)) (upd cp i cap) (upd ls i l) ∧ Kept (fun b => b = g ∨ b = O ∨ Foot (V + 2) A b) w (w1.setCell a (.slice (some ⟨g', 0, none⟩) n cap)) ∧
      (∀ b, Foot (V + 2) (upd A i (some ⟨g', 0, none⟩)) b → Foot (V + 2) A b ∨ w.heap.size ≤ b) := by
  obtain ⟨k, m0, mc, mg, mO⟩ := S.mid hV hi hvo hg
  subst ha hn
  have foot : ∀ b, Foot (V + 2) (upd A i (some ⟨g', 0, none⟩)) b → Foot (V + 2) A b ∨ w.heap.size ≤ b := by
    rintro b ⟨j, hj, hb⟩
    by_cases e : j = i
    · subst e
      rw [upd_same] at hb
      simp only [Option.some.injEq, Addr.mk.injEq, and_true] at hb
      subst hb
      rcases hat with h | h
      · exact .inl ⟨j, hj, h⟩
      · exact .inr h
    · rw [upd_ne _ _ e] at hb; exact .inl ⟨j, hj, hb⟩
  have hgl := S.glt
  have hOl := S.Olt hV
  have xg : ¬ Foot (V + 2) (upd A i (some ⟨g', 0, none⟩)) g := fun h => by
    rcases foot g h with h | h
    · exact S.xg h
    · omega
  have xO : ¬ Foot (V + 2) (upd A i (some ⟨g', 0, none⟩)) O := fun h => by
    rcases foot O h with h | h
    · exact S.xO h
    · omega
  have hblk : (cellOf g O i).block = g ∨ (cellOf g O i).block = O := cellOf_block g O i
  refine ⟨⟨?_, fun j hj => ?_, fun j => ?_, fun j => ?_, F1.of_block (fun b hb => Below.heap_setCell _ _ _ _ (fun e => ?_)), xg, xO, S.gO⟩, ⟨hg.os, hg.tape, hg.output, ?_, fun b hb he => ?_⟩, foot⟩
  · rw [World.cell?_setCell_other _ _ _ _ (cellOf_f0 S.gO)]; exact m0
  · by_cases e : j = i
    · subst e
      rw [upd_same, upd_same, upd_same]
      exact World.cell?_setCell_same _ _ _ (mc j hj)
    · rw [upd_ne _ _ e, upd_ne _ _ e, upd_ne _ _ e, World.cell?_setCell_other _ _ _ _ (cellOf_inj S.gO (fun h => e h.symm))]
      exact mc j hj
  · rw [World.frozen?_setCell]; exact mg j
  · rw [World.frozen?_setCell]; exact mO j
  · rcases hblk with h | h
    · rw [h] at e; subst e; exact xg hb
    · rw [h] at e; subst e; exact xO hb
  · have := hg.size; simp at this; simp; omega
  · rw [Below.heap_setCell _ _ _ _ (fun e => ?_)]
    · exact k b hb (fun h => he (.inr (.inr h)))
    · rcases hblk with h | h
      · rw [h] at e; exact he (.inl e)
      · rw [h] at e; exact he (.inr (.inl e))
end

/-- The rows of a network given as a list. -/
def lsOf (es : Es) (i : Nat) : List Nat := if i = 0 then (List.range (2 * es.length)).map (headL es) else if i = 1 then (List.range (2 * es.length)).map (roomL es) else outL es (i - 2)
theorem range_two (n : Nat) : List.range (2 * (n + 1)) = List.range (2 * n) ++ [2 * n, 2 * n + 1] := by
  rw [show 2 * (n + 1) = 2 * n + 1 + 1 by omega, List.range_succ, List.range_succ, List.append_assoc]; rfl
theorem lsOf_snoc (es : Es) (u v c : Nat) (huv : u ≠ v) (i : Nat) : lsOf (es ++ [(u, v, c)]) i = upd (upd (upd (upd (lsOf es) 0 (lsOf es 0 ++ [v, u])) 1 (lsOf es 1 ++ [c, 0])) (u + 2) (lsOf es (u + 2) ++ [2 * es.length])) (v + 2) (lsOf es (v + 2) ++ [2 * es.length + 1]) i := by
  have hl : (es ++ [(u, v, c)]).length = es.length + 1 := by simp
  by_cases h0 : i = 0
  · subst h0
    rw [upd_ne _ _ (by omega), upd_ne _ _ (by omega), upd_ne _ _ (by omega), upd_same]
    unfold lsOf
    rw [if_pos rfl, if_pos rfl, hl, range_two, List.map_append]
    congr 1
    · refine List.map_congr_left fun e he => headL_old es _ (List.mem_range.1 he)
    · simp only [List.map_cons, List.map_nil, headL_new0, headL_new1]
  · by_cases h1 : i = 1
    · subst h1
      rw [upd_ne _ _ (by omega), upd_ne _ _ (by omega), upd_same]
      unfold lsOf
      rw [if_neg (by omega), if_pos rfl, if_neg (by omega), if_pos rfl, hl, range_two, List.map_append]
      congr 1
      · refine List.map_congr_left fun e he => roomL_old es _ (List.mem_range.1 he)
      · simp only [List.map_cons, List.map_nil, roomL_new0, roomL_new1]
    · have hI : ∀ es' : Es, lsOf es' i = outL es' (i - 2) := fun es' => by unfold lsOf; rw [if_neg h0, if_neg h1]
      rw [hI, outL_snoc]
      by_cases hv : i = v + 2
      · subst hv
        rw [upd_same, if_neg (by omega), if_pos (by omega), List.append_nil, hI]
      · rw [upd_ne _ _ hv, if_neg (show ¬ v = i - 2 by omega), List.append_nil]
        by_cases hu : i = u + 2
        · subst hu
          rw [upd_same, if_pos (by omega), hI]
        · rw [upd_ne _ _ hu, if_neg (by omega), List.append_nil, upd_ne _ _ h1, upd_ne _ _ h0, hI]
end Go.Proofs.Qxb6613837a
