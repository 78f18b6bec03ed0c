import Derived.Test.Qxb6613839aE1
namespace Go.Proofs.Qxb6613839a
open Go.RowKit
set_option linter.unusedVariables false
set_option linter.unusedSimpArgs false
attribute [local go_sem] hit65 hit56 hit60 hit69 hit68 hit4 hit9 miss65 miss56 miss85 miss60 miss88 miss68 look_nil meth65 meth68 meth69 meth60 meth56 eval65 eval56

theorem Try.info32 : (Try.prog.info? 32).map (fun i => (i.zero, i.size, i.bytes)) = some (some (.agg #[.string ⟨#[]⟩, .string ⟨#[]⟩]), 2, 32) := by kernel_rfl

/-- Terms as cells. -/
def tcells (l : List (ByteArray × ByteArray)) : List Value := l.flatMap fun t => [.string t.1, .string t.2]
theorem tcells_length (l : List (ByteArray × ByteArray)) : (tcells l).length = l.length * 2 := by
  induction l with
  | nil => rfl
  | cons t l ih => simp [tcells] at ih ⊢; omega
theorem tcells_append (a b : List (ByteArray × ByteArray)) : tcells (a ++ b) = tcells a ++ tcells b := by simp [tcells]
theorem tcells_one (l : List (ByteArray × ByteArray)) : ∀ u ∈ tcells l, u.oneCell' = true := by
  intro u hu
  simp [tcells] at hu
  obtain ⟨a, b, _, h | h⟩ := hu <;> subst h <;> rfl

theorem grow_size (z : Array Value) (hz : z.size = 2) (n cap : Nat) (h : n ≤ cap) : (Builtin.zeroCells z n ++ Builtin.zeroCells z (cap - n)).size = cap * 2 := by
  rw [Array.size_append, size_zeroCells, size_zeroCells, hz]
  omega

set_option maxRecDepth 100000 in
set_option maxHeartbeats 400000 in
theorem grow_nil (n : Nat) (hn : n ≤ 1000000) (w : World) :
    Calls Try.prog 32 #[.slice none 0 0, .int .i64 n] w fun e w' => ∃ v, e = .returned v ∧ w'.ownsRow w.heap.size 32 2 v 0 [] ∧ Below w.heap.size w w' := by
  by_cases h0 : n = 0
  · subst h0
    go_enter Try.func32, Try.ntmps32
    go_wp2
    go_ret
    exact ⟨_, rfl, World.ownsRow_nil _ _ _ _, Below.refl _ _⟩
  · have h0' : 0 < n := by omega
    have hb32 : Try.t32.bytes = 32 := by kernel_rfl
    have hnc : Builtin.nextslicecap n 0 = n := nextslicecap_zero h0'
    go_enter Try.func32, Try.ntmps32
    go_wp2
    go_ret
    refine ⟨_, rfl, (World.ownsRow_made w _ (grownCap w n 0 32) (Nat.le_refl _) (grownCap_le_maxLen w n 0 32 (by unfold maxLen; omega)) (grow_size _ rfl n _ (grownCap_ge w n 0 32))).drew, ((Below.refl _ _).alloc (Nat.le_refl _) _).drew⟩

theorem cost_any (a b : ByteArray) (w : World) :
    Calls Try.prog 25 #[.agg #[.string a, .string b]] w fun e w' => e = .returned (.int .i64 1) ∧ Below w.heap.size w w' := by
  go_enter Try.func25, Try.ntmps25
  go_wp2
  go_ret
  exact ⟨rfl, (Below.refl _ _).alloc (Nat.le_refl _) _⟩

abbrev costV : Value := .func (.func 25) #[] #[]

theorem grown_cell {W w1 : World} (hg : W.grownBy w1 none) : (∀ b o, b < W.heap.size → w1.cell? ⟨b, o, none⟩ = W.cell? ⟨b, o, none⟩) ∧ (∀ b o, b < W.heap.size → w1.frozen? ⟨b, o, none⟩ = W.frozen? ⟨b, o, none⟩) :=
  ⟨fun b o h => World.cell?_of_block (w := W) (hg.block b h (by simp)), fun b o h => World.frozen?_of_block (w := W) (hg.block b h (by simp))⟩
theorem owns_form2 {w : World} {base : Nat} {e : TypeId} {v : Value} {n : Nat} {xs : List Value} (h : w.ownsRow base e 2 v (n + 1) xs) : ∃ g cap, v = .slice (some ⟨g, 0, none⟩) (n + 1) cap := by
  rcases h.2 with ⟨_, h0⟩ | ⟨g, cap, cur, hv, _⟩
  · omega
  · exact ⟨g, cap, hv⟩
theorem owns_below2 {w w' : World} {base : Nat} {e : TypeId} {v : Value} {n : Nat} {xs : List Value} (h : w.ownsRow base e 2 v n xs) (hb : Below w.heap.size w w') : w'.ownsRow base e 2 v n xs := by
  obtain ⟨h1, h2⟩ := h
  refine ⟨h1, ?_⟩
  rcases h2 with h2 | ⟨g, cap, cur, hv, hg, hh, r⟩
  · exact .inl h2
  · exact .inr ⟨g, cap, cur, hv, hg, (hb.block g (lt_of_block hh)).trans hh, r⟩
theorem owns_base2 {w : World} {base base' : Nat} {e : TypeId} {v : Value} {n : Nat} {xs : List Value} (h : w.ownsRow base e 2 v n xs) (hb : base' ≤ base) : w.ownsRow base' e 2 v n xs := by
  obtain ⟨h1, h2⟩ := h
  refine ⟨h1, ?_⟩
  rcases h2 with h2 | ⟨g, cap, cur, hv, hg, r⟩
  · exact .inl h2
  · exact .inr ⟨g, cap, cur, hv, by omega, r⟩

theorem news_two {W : World} {n : Nat} {t : TypeId} {a b : Value} (h : W.heap.size = n) : ∀ j u, [a, b][j]? = some u → (W.alloc (.cells #[a, b] t)).cell? ((⟨n, 0, none⟩ : Addr).add j) = some u := by
  intro j u hj
  subst h
  match j, hj with
  | 0, hj => simp at hj; subst hj; simp [Addr.add]
  | 1, hj => simp at hj; subst hj; simp [Addr.add]

theorem cell5 {w : World} {c : Array Value} {t : TypeId} {o2 o3 o4 o5 : Obj} {v : Value} (j : Nat) (hv : c[j]? = some v) : (((((w.alloc (.cells c t)).alloc o2).alloc o3).alloc o4).alloc o5).drew.drew.cell? ⟨w.heap.size, j, none⟩ = some v := by
  have h : (((((w.alloc (.cells c t)).alloc o2).alloc o3).alloc o4).alloc o5).heap[w.heap.size]? = some (.cells c t (0, 0)) := by
    rw [Below.heap_alloc _ _ _ (by simp; omega), Below.heap_alloc _ _ _ (by simp; omega), Below.heap_alloc _ _ _ (by simp; omega), Below.heap_alloc _ _ _ (by simp)]
    exact heap_alloc_new w _
  show (((((w.alloc (.cells c t)).alloc o2).alloc o3).alloc o4).alloc o5).cell? ⟨w.heap.size, j, none⟩ = some v
  simp [World.cell?, h, hv]
theorem terms_end {w w1 : World} {o1 o2 o3 o4 : Obj} {cur : Array Value} {cap : Nat} {p s : ByteArray} {x y z : Value} (h1 : 1 ≤ cap) (h2 : cap ≤ maxLen) (hU : #[Value.string p, Value.string s] ++ Builtin.zeroCells #[.string ⟨#[]⟩, .string ⟨#[]⟩] (cap - 1) = cur)
    (hb1 : Below (((((w.alloc o1).alloc o2).alloc o3).alloc o4).alloc (.cells cur 32)).drew.drew.heap.size (((((w.alloc o1).alloc o2).alloc o3).alloc o4).alloc (.cells cur 32)).drew.drew w1) :
    (((w1.setCell ⟨w.heap.size + 1, 1, none⟩ x).setCell ⟨w.heap.size, 0, none⟩ y).setCell ⟨w.heap.size, 1, none⟩ z).ownsRow w.heap.size 32 2 (.slice (some ⟨w.heap.size + 1 + 1 + 1 + 1, 0, none⟩) 1 cap) 1 (tcells [(p, s)]) ∧ Below w.heap.size w (((w1.setCell ⟨w.heap.size + 1, 1, none⟩ x).setCell ⟨w.heap.size, 0, none⟩ y).setCell ⟨w.heap.size, 1, none⟩ z) := by
  have hsz := hb1.size
  simp at hsz
  have hrow : (((((w.alloc o1).alloc o2).alloc o3).alloc o4).alloc (.cells cur 32)).heap[w.heap.size + 1 + 1 + 1 + 1]? = some (.cells cur 32 (0, 0)) := by
    simpa using heap_alloc_new ((((w.alloc o1).alloc o2).alloc o3).alloc o4) (.cells cur 32)
  have hbW : Below w.heap.size w (((((w.alloc o1).alloc o2).alloc o3).alloc o4).alloc (.cells cur 32)).drew.drew := by
    refine Below.drew (Below.drew ?_)
    refine Below.alloc (Below.alloc (Below.alloc (Below.alloc (Below.alloc (Below.refl _ _) (Nat.le_refl _) _) ?_ _) ?_ _) ?_ _) ?_ _ <;> simp <;> omega
  refine ⟨⟨by simp [tcells], .inr ⟨_, cap, cur, rfl, by omega, ?_, h1, h2, ?_, ?_⟩⟩, ?_⟩
  · rw [Below.heap_setCell _ _ _ _ (by simp; omega), Below.heap_setCell _ _ _ _ (by simp; omega), Below.heap_setCell _ _ _ _ (by simp; omega), hb1.block _ (by simp)]
    exact hrow
  · rw [← hU, Array.size_append, size_zeroCells]
    simp
    omega
  · rw [← hU]
    simp [tcells]
  · exact (((below_next hbW hb1).setCell (by simp) _).setCell (Nat.le_refl _) _).setCell (Nat.le_refl _) _

set_option maxRecDepth 100000 in
set_option maxHeartbeats 1000000 in
theorem terms_one (p s : ByteArray) (g c : Nat) (w : World) (h : w.cell? ⟨g, 0, none⟩ = some (.string s)) :
    Calls Try.prog 30 #[costV, .string p, .slice (some ⟨g, 0, none⟩) 1 c] w fun e w' => ∃ v, e = .returned (.tuple #[.agg #[v, .int .i64 1], .bool true]) ∧ w'.ownsRow w.heap.size 32 2 v 1 (tcells [(p, s)]) ∧ Below w.heap.size w w' := by
  have hb := World.block_lt_of_cell? w _ h
  simp only at hb
  obtain ⟨i, hi, hz, hs, hbb⟩ := info_parts Try.info32
  go_enter Try.func30, Try.ntmps30
  go_wp2_with fail
  refine wp_loop_rounds 2 ?_
  rw [rounds_succ]
  have hb32 : Try.t32.bytes = 32 := by kernel_rfl
  have hnc : Builtin.nextslicecap 1 0 = 1 := nextslicecap_zero (by omega)
  go_wp2_with fail
  obtain ⟨cap, hcap⟩ : ∃ cap, (Question.appendCap 1 0 32).cut (w.tape w.drawn (Question.appendCap 1 0 32)) = cap := ⟨_, rfl⟩
  have HC : Hid (1 ≤ cap ∧ cap ≤ maxLen) := by
    rw [← hcap]
    exact ⟨grownCap_ge w 1 0 32, grownCap_le_maxLen w 1 0 32 (by unfold maxLen; omega)⟩
  rw [hcap]
  clear hcap
  obtain ⟨cur, hcur⟩ : ∃ cur, #[Value.string p, Value.string s] ++ Builtin.zeroCells #[.string ⟨#[]⟩, .string ⟨#[]⟩] (cap - 1) = cur := ⟨_, rfl⟩
  have HU := hid hcur
  rw [hcur]
  clear hcur
  go_region_with (first | (go_at_call 25; refine (cost_any _ _ _).mono ?_; rintro e w1 ⟨rfl, hb1⟩; obtain ⟨hc1, hf1⟩ := bcell hb1))
  all_goals go_wp2_with fail
  all_goals rw [rounds_succ]
  all_goals go_wp2_with fail
  all_goals
    have e0 : w1.cell? ⟨w.heap.size, 0, none⟩ = some (.slice none 0 0) := by
      rw [hc1 _ _ (by simp; omega)]
      exact cell5 _ rfl
    have e1 : w1.cell? ⟨w.heap.size, 1, none⟩ = some (.int .i64 0) := by
      rw [hc1 _ _ (by simp; omega)]
      exact cell5 _ rfl
    clear hc1 hf1
    refine bodyPost_ret (v := .tuple #[.agg #[.slice (some ⟨w.heap.size + 1 + 1 + 1 + 1, 0, none⟩) 1 cap, .int .i64 1], .bool true]) (by simp [results, Try.results30, go_sem, e0, e1]) rfl ?_
    exact ⟨_, rfl, terms_end HC.out.1 HC.out.2 HU.out hb1⟩
end Go.Proofs.Qxb6613839a
