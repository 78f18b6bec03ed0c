import Derived.Test.Qxb6613837aG12
namespace Go.Proofs.Qxb6613837a
set_option linter.unusedVariables false

theorem pw_mono {α : Type} {R S : α → α → Prop} (h : ∀ a b, R a b → S a b) : ∀ l : List α, l.Pairwise R → l.Pairwise S := by
  intro l
  induction l with
  | nil => intro _; exact List.Pairwise.nil
  | cons a l ih =>
    intro hp
    rw [List.pairwise_cons] at hp ⊢
    exact ⟨fun b hb => h a b (hp.1 b hb), ih hp.2⟩
theorem pw_rowE (k : Nat) (ap : Nat → Nat → Bool) (i j : Nat) : (rowE k ap i j).Pairwise Apart := by
  unfold rowE
  rw [List.pairwise_map]
  refine pw_mono (fun a b h => ?_) _ (List.Pairwise.filter (ap i) List.pairwise_lt_range)
  intro hh
  have : k + a = k + b := hh.2
  omega
theorem pw_rowsE (k : Nat) (ap : Nat → Nat → Bool) : ∀ i, i ≤ k → (rowsE k ap i).Pairwise Apart := by
  intro i
  induction i with
  | zero => intro _; exact List.Pairwise.nil
  | succ i ih =>
    intro hi
    have e : rowsE k ap (i + 1) = rowsE k ap i ++ ((2 * k, i, 0) :: rowE k ap i k) := by
      unfold rowsE
      rw [List.range_succ, List.flatMap_append]
      simp only [List.flatMap_cons, List.flatMap_nil, List.append_nil]
    rw [e, List.pairwise_append]
    refine ⟨ih (by omega), List.pairwise_cons.2 ⟨fun y hy => ?_, pw_rowE k ap i k⟩, fun x hx y hy => ?_⟩
    · obtain ⟨c, hc, _, rfl⟩ := mem_rowE hy
      intro hh
      have : 2 * k = i := hh.1
      omega
    · obtain ⟨r, hr, hx⟩ := mem_rowsE hx
      intro hh
      rcases List.mem_cons.1 hy with rfl | hy
      · rcases hx with rfl | ⟨c, hc, _, rfl⟩
        · have : r = i := hh.2
          omega
        · have : r = 2 * k := hh.1
          omega
      · obtain ⟨c', hc', _, rfl⟩ := mem_rowE hy
        rcases hx with rfl | ⟨c, hc, _, rfl⟩
        · have : 2 * k = i := hh.1
          omega
        · have : r = i := hh.1
          omega
theorem pw_sinksE (k : Nat) (j : Nat) : (sinksE k j).Pairwise Apart := by
  unfold sinksE
  rw [List.pairwise_map]
  refine pw_mono (fun a b h => ?_) _ List.pairwise_lt_range
  intro hh
  have : k + a = k + b := hh.1
  omega
theorem pw_excAt (k v : Nat) : (excAt k v).Pairwise Apart := by
  unfold excAt
  split
  · exact List.pairwise_singleton _ _
  · split
    · exact List.pairwise_singleton _ _
    · split
      · exact List.pairwise_singleton _ _
      · split
        · exact List.pairwise_singleton _ _
        · exact List.Pairwise.nil
theorem pw_excE (k : Nat) : ∀ v, (excE k v).Pairwise Apart := by
  intro v
  induction v with
  | zero => exact List.Pairwise.nil
  | succ v ih =>
    have e : excE k (v + 1) = excE k v ++ excAt k v := by
      unfold excE
      rw [List.range_succ, List.flatMap_append]
      simp only [List.flatMap_cons, List.flatMap_nil, List.append_nil]
    rw [e, List.pairwise_append]
    refine ⟨ih, pw_excAt k v, fun x hx y hy => ?_⟩
    obtain ⟨r, hr, hx⟩ := mem_excE hx
    intro hh
    rcases mem_excAt hx with ⟨a, rfl⟩ | ⟨a, b, rfl⟩ | ⟨a, b, rfl⟩ | ⟨a, b, rfl⟩ <;> rcases mem_excAt hy with ⟨a', rfl⟩ | ⟨a', b', rfl⟩ | ⟨a', b', rfl⟩ | ⟨a', b', rfl⟩ <;> simp only at hh <;> omega

theorem pw_esOf (k : Nat) (ap : Nat → Nat → Bool) : (esOf k ap).Pairwise Apart := by
  unfold esOf
  rw [List.pairwise_append, List.pairwise_append, List.pairwise_append]
  refine ⟨⟨⟨pw_rowsE k ap k (Nat.le_refl _), pw_sinksE k k, fun x hx y hy => ?_⟩, List.pairwise_singleton _ _, fun x hx y hy => ?_⟩, pw_excE k _, fun x hx y hy => ?_⟩
  · obtain ⟨r, hr, hx⟩ := mem_rowsE hx
    obtain ⟨c', hc', rfl⟩ := mem_sinksE hy
    intro hh
    rcases hx with rfl | ⟨c, hc, _, rfl⟩ <;> simp only at hh <;> omega
  · rw [List.mem_singleton.1 hy]
    intro hh
    rcases List.mem_append.1 hx with hx | hx
    · obtain ⟨r, hr, hx⟩ := mem_rowsE hx
      rcases hx with rfl | ⟨c, hc, _, rfl⟩ <;> simp only at hh <;> omega
    · obtain ⟨c, hc, rfl⟩ := mem_sinksE hx
      simp only at hh
      omega
  · obtain ⟨v, hv, hy⟩ := mem_excE hy
    intro hh
    rcases List.mem_append.1 hx with hx | hx
    · rcases List.mem_append.1 hx with hx | hx
      · obtain ⟨r, hr, hx⟩ := mem_rowsE hx
        rcases hx with rfl | ⟨c, hc, _, rfl⟩ <;> rcases mem_excAt hy with ⟨a', rfl⟩ | ⟨a', b', rfl⟩ | ⟨a', b', rfl⟩ | ⟨a', b', rfl⟩ <;> simp only at hh <;> omega
      · obtain ⟨c, hc, rfl⟩ := mem_sinksE hx
        rcases mem_excAt hy with ⟨a', rfl⟩ | ⟨a', b', rfl⟩ | ⟨a', b', rfl⟩ | ⟨a', b', rfl⟩ <;> simp only at hh <;> omega
    · rw [List.mem_singleton.1 hx] at hh
      rcases mem_excAt hy with ⟨a', rfl⟩ | ⟨a', b', rfl⟩ | ⟨a', b', rfl⟩ | ⟨a', b', rfl⟩ <;> simp only at hh <;> omega
end Go.Proofs.Qxb6613837a
