import Derived.Test.Qxb6613837aW15c
namespace Go.Proofs.Qxb6613837a
open Go.RowKit
set_option linter.unusedVariables false

/-- What the excesses above 0 sum to, those of the first v vertices. -/
def needA (k v : Nat) : Nat := if v ≤ k then v else if v ≤ 2 * k + 1 then k else 2 * k
theorem exc_pos {k v c : Nat} (hv : v < 2 * k + 4) (h : excB k k v = (c : Int)) (hc : 0 < c) : excAt k v = [(2 * k + 2, v, c)] ∧ needA k (v + 1) = needA k v + c := by
  unfold excB at h
  unfold excAt needA
  by_cases h1 : v < k
  · rw [if_pos h1] at h ⊢
    have : c = 1 := by omega
    subst this
    rw [if_pos (by omega), if_pos (by omega)]
    exact ⟨rfl, rfl⟩
  · rw [if_neg h1] at h ⊢
    by_cases h2 : v < k + k
    · rw [if_pos h2] at h; omega
    · rw [if_neg h2] at h
      by_cases h3 : v = 2 * k
      · rw [if_pos h3] at h; omega
      · rw [if_neg h3] at h
        by_cases h4 : v = 2 * k + 1
        · rw [if_pos h4] at h
          have : c = k := by omega
          subst this
          rw [if_neg (by omega), if_neg (by omega), if_pos ⟨h4, hc⟩, if_neg (by omega), if_neg (by omega), if_neg (by omega), if_pos (by omega)]
          exact ⟨by rw [h4], by omega⟩
        · rw [if_neg h4] at h; omega
theorem exc_neg {k v c : Nat} (hv : v < 2 * k + 4) (h : excB k k v = -(c : Int)) (hc : 0 < c) : excAt k v = [(v, 2 * k + 3, c)] ∧ needA k (v + 1) = needA k v := by
  unfold excB at h
  unfold excAt needA
  by_cases h1 : v < k
  · rw [if_pos h1] at h; omega
  · rw [if_neg h1] at h ⊢
    by_cases h2 : v < k + k
    · rw [if_pos h2] at h
      have : c = 1 := by omega
      subst this
      rw [if_pos (by omega), if_neg (by omega), if_pos (by omega)]
      refine ⟨rfl, ?_⟩
      by_cases e : v ≤ k
      · rw [if_pos e]; omega
      · rw [if_neg e, if_pos (by omega)]
    · rw [if_neg h2] at h
      by_cases h3 : v = 2 * k
      · rw [if_pos h3] at h
        have : c = k := by omega
        subst this
        rw [if_neg (by omega), if_pos ⟨h3, hc⟩, if_neg (by omega), if_pos (by omega), if_neg (by omega), if_pos (by omega)]
        exact ⟨by rw [h3], rfl⟩
      · rw [if_neg h3] at h
        by_cases h4 : v = 2 * k + 1
        · rw [if_pos h4] at h; omega
        · rw [if_neg h4] at h; omega
theorem exc_nil {k v : Nat} (hv : v < 2 * k + 4) (h : excB k k v = 0) : excAt k v = [] ∧ needA k (v + 1) = needA k v := by
  unfold excB at h
  unfold excAt needA
  by_cases h1 : v < k
  · rw [if_pos h1] at h; omega
  · rw [if_neg h1] at h ⊢
    by_cases h2 : v < k + k
    · rw [if_pos h2] at h; omega
    · rw [if_neg h2] at h
      by_cases h3 : v = 2 * k
      · rw [if_pos h3] at h
        have hk : k = 0 := by omega
        subst hk
        subst h3
        exact ⟨rfl, rfl⟩
      · rw [if_neg h3] at h
        by_cases h4 : v = 2 * k + 1
        · rw [if_pos h4] at h
          have hk : k = 0 := by omega
          subst hk
          subst h4
          exact ⟨rfl, rfl⟩
        · rw [if_neg (by omega), if_neg (by omega), if_neg (by omega)]
          refine ⟨rfl, ?_⟩
          rw [if_neg (by omega), if_neg (by omega), if_neg (by omega), if_neg (by omega)]
theorem exc_ne {k v : Nat} (hv : v < 2 * k + 4) (h : excB k k v ≠ 0) : v < 2 * k + 2 := by
  unfold excB at h
  by_cases h1 : v < 2 * k + 2
  · exact h1
  · rw [if_neg (by omega), if_neg (by omega), if_neg (by omega), if_neg (by omega)] at h
    exact absurd rfl h
theorem needA_end (k : Nat) : needA k (2 * k + 4) = 2 * k := by
  unfold needA
  rw [if_neg (by omega), if_neg (by omega)]
theorem needA_le (k v : Nat) : needA k v ≤ 2 * k := by
  unfold needA
  split
  · omega
  · split <;> omega
theorem esOf_len (k : Nat) (ap : Nat → Nat → Bool) (hk : k ≤ 256) : (esOf k ap).length ≤ 100000 ∧ 0 < (esOf k ap).length := by
  unfold esOf
  rw [List.length_append, List.length_append, List.length_append, sinksE_len]
  have h1 := rowsE_len k ap k
  have h2 : k * (k + 1) ≤ 256 * 257 := Nat.mul_le_mul (by omega) (by omega)
  have h3 := excE_len k (2 * k + 4)
  simp only [List.length_singleton]
  omega
theorem roomL_le {k : Nat} {ap : Nat → Nat → Bool} (e : Nat) : roomL (esOf k ap) e ≤ k + 1 := by
  unfold roomL
  split
  · by_cases h : e / 2 < (esOf k ap).length
    · rcases (sp_esOf k ap).kind (e / 2) h with ⟨a, b, c⟩ | ⟨a, j', b, c, d, f⟩ | ⟨j', a, b, c, d⟩ | ⟨a, b, c⟩ | ⟨a, b, c⟩ | ⟨j', a, b, c, d⟩ | ⟨a, b, c⟩ | ⟨a, b, c⟩ <;> omega
    · unfold edgeAt
      rw [List.getD_eq_getElem?_getD, List.getElem?_eq_none (by omega)]
      exact Nat.zero_le _
  · omega
theorem fctx {k : Nat} {ap : Nat → Nat → Bool} (hk : k ≤ 256) : FCtx (2 * k + 4) (2 * (esOf k ap).length) (outL (esOf k ap)) (headL (esOf k ap)) (roomL (esOf k ap)) (2 * k + 2) (2 * k + 3) := by
  have h := esOf_len k ap hk
  refine ⟨wf_esOf k ap, by omega, by omega, fun u => by have := outL_len (esOf k ap) u; omega, fun e => ?_, by omega, by omega, by omega⟩
  have h1 := roomL_le (k := k) (ap := ap) e
  have h2 := roomL_le (k := k) (ap := ap) (mate e)
  omega

/-- A grown row, cell by cell. -/
theorem own_row {w : World} {base : Nat} {a : Option Addr} {c : Nat} {l : List Nat} (h : w.ownsRow base 3 1 (.slice a l.length c) l.length (nums l)) (hl : 0 < l.length) : ∃ b, a = some ⟨b, 0, none⟩ ∧ IRow w b l.length (fun i => (l.getD i 0 : Int)) := by
  rcases own_form h with ⟨_, h1, _⟩ | ⟨b, cur, h1, _, _, h2, h3, _, h4, h5⟩
  · omega
  · refine ⟨b, h1, cur, 3, h2, fun i hi => ?_⟩
    have e : (cur.toList.take (l.length * 1))[i]? = cur[i]? := by rw [List.getElem?_take, if_pos (by omega)]; simp
    have e2 : l.getD i 0 = l[i] := by rw [List.getD_eq_getElem?_getD, List.getElem?_eq_getElem hi]; rfl
    show cur[i]? = some (Value.int .i64 ((l.getD i 0 : Nat) : Int))
    rw [← e, h5, List.getElem?_map, List.getElem?_eq_getElem hi, e2]
    rfl
theorem getD_range_map (n : Nat) (f : Nat → Nat) {i : Nat} (hi : i < n) : ((List.range n).map f).getD i 0 = f i := by
  rw [List.getD_eq_getElem?_getD, List.getElem?_map, List.getElem?_range hi]; rfl
/-- The built network, as the flow reads it. -/
theorem St.net {w : World} {base g O V : Nat} {A : Nat → Option Addr} {cp : Nat → Nat} {es : Es} (S : St w base g O V A cp (lsOf es)) (he : 0 < es.length) : ∃ H R, A 1 = some ⟨R, 0, none⟩ ∧
    Net (fun b => b = R) w g O H R V (2 * es.length) (cp 0) (cp 1) (fun u => A (u + 2)) (fun u => cp (u + 2)) (outL es) (headL es) ∧ IRow w R (2 * es.length) (fun e => (roomL es e : Int)) := by
  have l0 : lsOf es 0 = (List.range (2 * es.length)).map (headL es) := rfl
  have l1 : lsOf es 1 = (List.range (2 * es.length)).map (roomL es) := rfl
  have n0 : (lsOf es 0).length = 2 * es.length := lsOf_zero es
  have n1 : (lsOf es 1).length = 2 * es.length := by rw [l1]; simp
  have l2 : ∀ u, lsOf es (u + 2) = outL es u := fun u => by unfold lsOf; rw [if_neg (by omega), if_neg (by omega)]; rfl
  obtain ⟨H, hH, rH⟩ := own_row (S.fam.own 0 (by omega)) (by omega)
  obtain ⟨R, hR, rR⟩ := own_row (S.fam.own 1 (by omega)) (by omega)
  have c1 : w.cell? ⟨g, 1, none⟩ = some (.slice (A 0) (lsOf es 0).length (cp 0)) := S.cell 0 (by omega)
  have c2 : w.cell? ⟨g, 2, none⟩ = some (.slice (A 1) (lsOf es 1).length (cp 1)) := S.cell 1 (by omega)
  rw [hH, n0] at c1
  rw [hR, n1] at c2
  refine ⟨H, R, hR, ⟨S.f0, c1, c2, fun u hu => ?_, fun u i hu hi => ?_, ?_, fun e => S.xg ⟨1, by omega, by rw [hR, e]⟩, fun e => S.xO ⟨1, by omega, by rw [hR, e]⟩, fun e => S.fam.inj 0 1 H (by omega) (by omega) (by omega) hH (by rw [hR, e])⟩, ?_⟩
  · have := S.cell (u + 2) (by omega)
    rw [l2] at this
    have e : cellOf g O (u + 2) = ⟨O, u, none⟩ := by unfold cellOf; rw [if_neg (by omega), if_neg (by omega)]; rfl
    rw [e] at this
    exact this
  · have h := S.fam.own (u + 2) (by omega)
    rw [l2] at h
    obtain ⟨b, hb, rb⟩ := own_row h (by omega)
    exact ⟨b, hb, fun e => S.fam.inj (u + 2) 1 b (by omega) (by omega) (by omega) hb (by rw [hR, e]), rb.cell hi⟩
  · rw [n0, l0] at rH
    exact rH.congr (fun i hi => by rw [getD_range_map _ _ hi])
  · rw [n1, l1] at rR
    exact rR.congr (fun i hi => by rw [getD_range_map _ _ hi])
end Go.Proofs.Qxb6613837a
