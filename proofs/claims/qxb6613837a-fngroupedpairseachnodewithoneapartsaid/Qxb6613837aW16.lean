import Derived.Test.Qxb6613837aW15e
namespace Go.Proofs.Qxb6613837a
open Go.RowKit
set_option linter.unusedVariables false

/-- What transport answers: nil; or who takes whose. -/
def TPost (w0 : World) (k : Nat) (ap : Nat → Nat → Bool) (e : Ending) (w' : World) : Prop :=
  Kept (fun _ => False) w0 w' ∧ (((flowOf k ap).1 < 2 * k ∧ e = .returned (.slice none 0 0)) ∨ (2 * k ≤ (flowOf k ap).1 ∧ ∃ (X : Nat) (Rx : Nat → Nat), e = .returned (.slice (some ⟨X, 0, none⟩) k k) ∧ XM w' w0.heap.size X k k Rx (fun r j => (pairX k ap r j : Int))))

set_option maxRecDepth 100000 in
set_option maxHeartbeats 2000000 in
theorem transport_any {w0 : World} {k sb Pa : Nat} {ap : Nat → Nat → Bool} (hk : k ≤ 256) (hsup : IRow w0 sb k (fun _ => 1))
    (LINK : ∀ (i j : Nat) (w' : World), i < k → j < k → Kept (fun _ => False) w0 w' → Calls Try.prog 27 #[.int .i64 i, .int .i64 j, .pointer (some ⟨Pa, 0, none⟩)] w' fun e w'' => e = .returned (.tuple #[.agg #[.int .i64 0, .int .i64 1], .bool (ap i j)]) ∧ Kept (fun _ => False) w' w'') :
    Calls Try.prog 26 #[.slice (some ⟨sb, 0, none⟩) k k, .agg #[.int .i64 1, .int .i64 1], .func (.func 27) #[] #[.pointer (some ⟨Pa, 0, none⟩)]] w0 fun e w' => TPost w0 k ap e w' := by
  obtain ⟨src, hsrc⟩ : ∃ x, x = 2 * k := ⟨_, rfl⟩
  obtain ⟨snk, hsnk⟩ : ∃ x, x = 2 * k + 1 := ⟨_, rfl⟩
  obtain ⟨ov, hov⟩ : ∃ x, x = 2 * k + 2 := ⟨_, rfl⟩
  obtain ⟨un, hun⟩ : ∃ x, x = 2 * k + 3 := ⟨_, rfl⟩
  obtain ⟨V, hV⟩ : ∃ x, x = 2 * k + 4 := ⟨_, rfl⟩
  have h2k : IntKind.i64.wrap (2 * (k : Int)) = (src : Int) := by rw [IntKind.wrap_i64]; omega
  have hs1 : IntKind.i64.wrap ((src : Int) + 1) = (snk : Int) := by rw [IntKind.wrap_i64]; omega
  have hs2 : IntKind.i64.wrap ((src : Int) + 2) = (ov : Int) := by rw [IntKind.wrap_i64]; omega
  have hs3 : IntKind.i64.wrap ((src : Int) + 3) = (un : Int) := by rw [IntKind.wrap_i64]; omega
  have hs4 : IntKind.i64.wrap ((src : Int) + 4) = (V : Int) := by rw [IntKind.wrap_i64]; omega
  have hmkV := make22 V (by omega)
  have hmkk := make22 k (by omega)
  have hmk27 := make27 k (by omega)
  have NUM := hid (And.intro hsrc (And.intro hsnk (And.intro hov (And.intro hun hV))))
  have hV0 : 0 < V := by omega
  have hV6 : V ≤ 1000 := by omega
  have hsuph := hid hsup
  have LINKh := hid LINK
  have NN := hid (newNetwork_any V (by omega))
  clear hsrc hsnk hov hun hV hsup LINK
  go_enter Try.func26, Try.ntmps26
  go_upto_region 4 with (go_at_call 34; refine (NN.out _).mono ?_; rintro e w1 ⟨rfl, rfl⟩)
  go_wp2_with fail
  have SET := setup_ti w0 k V hV0 (fun _ => 0) (fun _ => 0) (eF k ap)
  change Code.wp _ _ _ _ (setupW w0 k V)
  generalize setupW w0 k V = W at SET ⊢
  generalize w0.heap.size + 1 + 1 + 1 + 1 + 1 + 1 + 1 = Lo at SET ⊢
  generalize w0.heap.size + 1 + 1 + 1 + 1 + 1 + 1 = Ed at SET ⊢
  generalize w0.heap.size + 1 + 1 + 1 + 1 + 1 = Pe at SET ⊢
  generalize w0.heap.size + 1 + 1 + 1 + 1 = E at SET ⊢
  generalize w0.heap.size + 1 + 1 + 1 = Pg at SET ⊢
  generalize w0.heap.size + 1 + 1 = G at SET ⊢
  generalize w0.heap.size + 1 = base at SET ⊢
  obtain ⟨O, hO⟩ : ∃ x, x = base := ⟨_, rfl⟩
  have SET' : ∃ P4, P4 = w0.heap.size ∧ TI w0 W k V base G O E Pg Pe P4 Ed Lo 0 (fun _ => none) (fun _ => 0) [] (fun _ => 0) (fun _ => 0) (fun _ => 0) (eF k ap) := ⟨_, rfl, by rw [hO]; exact SET⟩
  clear SET
  obtain ⟨P4, hP4, SET⟩ := SET'
  rw [← hP4]
  have SETh := hid SET
  clear SET hO hP4
  go_loopg [57, 15] k (fun n v57 v15 wr => ∃ (i : Nat) (A : Nat → Option Addr) (cp Re Rl : Nat → Nat), v57 = .int .i64 i ∧ v15 = .int .i64 i ∧ Hid (n + i = k) ∧ Hid (TI w0 wr k V base G O E Pg Pe P4 Ed Lo i A cp (rowsE k ap i) (excA k i) Re Rl (eF k ap)))
  case atStart => exact ⟨0, _, _, _, _, rfl, rfl, hid (by omega), hid (by rw [← excA_zero, rowsE_zero]; exact SETh.out)⟩
  case round =>
    obtain ⟨i, A, cp, Re, Rl, rfl, rfl, hn, Th⟩ := hrel
    obtain ⟨gk0, hgk0⟩ : ∃ x, x = gk := ⟨_, rfl⟩
    subst hgk0
    obtain ⟨wr1, hwr1⟩ : ∃ x, x = wr := ⟨_, rfl⟩
    subst hwr1
    by_cases hi : i < k
    · have hi' : (i : Int) < (k : Int) := by omega
      have cs := (hsuph.out.kept Th.out.old id).cell hi
      have hw1 : IntKind.i64.wrap ((i : Int) + 1) = ((i + 1 : Nat) : Int) := by rw [IntKind.wrap_i64]; omega
      have hlen : (rowsE k ap i).length ≤ 100000 := by
        have h1 := rowsE_len k ap i
        have h2 : i * (k + 1) ≤ 256 * 257 := Nat.mul_le_mul (by omega) (by omega)
        omega
      have BND := hid (bounded_any (u := src) (v := i) (lo := 1) (hi := 1) Th.out.core.drew hV0 (by omega) (by have := NUM.out; omega) (by have := NUM.out; omega) (by have := NUM.out; omega) (by omega) (Nat.le_refl _) (by omega) (fun x _ => by have := excA_bd k (i := i) (by omega) x; omega))
      go_upto_region 13 with fail
      go_region_held3 (fun X => X.cell? ⟨sb, i, none⟩ = some (.int .i64 1)) (first | exact cs | exact cs2 | go_keep)
        (first | (go_at_call 35; refine BND.out.mono ?_; rintro e w2 ⟨rfl, A2, cp2, C2, K2, R2⟩; have T2 := hid (Th.out.more C2 ⟨K2.os, K2.tape, K2.output, K2.size, K2.block⟩ R2); have cs2 := (hsuph.out.kept T2.out.old id).cell hi; clear C2 K2 R2))
      go_upto_region 14 with fail
      obtain ⟨n1, hsrc⟩ : Hid (src = 2 * k) ∧ True := ⟨hid NUM.out.1, trivial⟩
      have T3 : Hid (TI w0 w2 k V base G O E Pg Pe P4 Ed Lo i A2 cp2 (rowsE k ap i ++ (2 * k, i, 0) :: rowE k ap i 0) (excA k (i + 1)) Re Rl (eF k ap)) := hid (by
        have h := T2.out
        rw [n1.out, excA_succ k hi] at h
        exact h)
      clear hsrc T2 BND Th cs cs2
      go_cut [57] from 59 to 88 (fun v57 wc => v57 = .int .i64 i ∧ ∃ re rl : Nat, Hid (TI w0 wc k V base G O E Pg Pe P4 Ed Lo i A2 cp2 (rowsE k ap i ++ (2 * k, i, 0) :: rowE k ap i 0) (excA k (i + 1)) Re Rl (eF k ap)) ∧
        Hid (IRow wc re k (fun _ => 0)) ∧ Hid (IRow wc rl k (fun _ => 0)) ∧ Hid (wc.cell? ⟨Ed, i, none⟩ = some (.slice (some ⟨re, 0, none⟩) k k) ∧ wc.cell? ⟨Lo, i, none⟩ = some (.slice (some ⟨rl, 0, none⟩) k k)) ∧
        Hid (w0.heap.size ≤ re ∧ w0.heap.size ≤ rl ∧ re ≠ rl ∧ ¬ Priv V G O E A2 re ∧ ¬ Priv V G O E A2 rl ∧ ¬ Xs P4 Ed Lo Pg Pe i Re Rl re ∧ ¬ Xs P4 Ed Lo Pg Pe i Re Rl rl))
      case first =>
        obtain ⟨ve, cve⟩ := T3.out.fin.ed.has hi
        obtain ⟨vl, cvl⟩ := T3.out.fin.lo.has hi
        have fEd := T3.out.fin.ed.frozen i
        have fLo := T3.out.fin.lo.frozen i
        have hEd := T3.out.fin.ed.lt
        have hLo := T3.out.fin.lo.lt
        have hEL := T3.out.dis.1.1
        have hLE : Lo ≠ Ed := fun h => hEL h.symm
        go_region
        all_goals go_wp2_with fail
        all_goals go_meet
        · obtain ⟨a1, a2, a3, a4, a5⟩ := T3.out.rows_new hV0 hi (.inl ⟨rfl, rfl⟩) rfl
          exact ⟨rfl, _, _, hid a1, hid a2, hid a3, hid a4, hid a5⟩
        · obtain ⟨a1, a2, a3, a4, a5⟩ := T3.out.rows_new hV0 hi (.inr ⟨rfl, rfl⟩) rfl
          exact ⟨rfl, _, _, hid a1, hid a2, hid a3, hid a4, hid a5⟩
      case rest =>
        obtain ⟨rfl, re, rl, Th, hre, hrl, hcells, hside⟩ := hcut
        clear T3
        go_wp2_with fail
        go_loopg [90] k (fun n v90 wr => ∃ (j : Nat) (A : Nat → Option Addr) (cp : Nat → Nat), v90 = .int .i64 j ∧ Hid (n + j = k) ∧ Hid (TI w0 wr k V base G O E Pg Pe P4 Ed Lo i A cp (rowsE k ap i ++ (2 * k, i, 0) :: rowE k ap i j) (excA k (i + 1)) Re Rl (eF k ap)) ∧
          Hid (IRow wr re k (fun x => if x < j then eF k ap i x else 0)) ∧ Hid (IRow wr rl k (fun _ => 0)) ∧ Hid (wr.cell? ⟨Ed, i, none⟩ = some (.slice (some ⟨re, 0, none⟩) k k) ∧ wr.cell? ⟨Lo, i, none⟩ = some (.slice (some ⟨rl, 0, none⟩) k k)) ∧
          Hid (w0.heap.size ≤ re ∧ w0.heap.size ≤ rl ∧ re ≠ rl ∧ ¬ Priv V G O E A re ∧ ¬ Priv V G O E A rl ∧ ¬ Xs P4 Ed Lo Pg Pe i Re Rl re ∧ ¬ Xs P4 Ed Lo Pg Pe i Re Rl rl))
        case atStart => exact ⟨0, _, _, rfl, hid (by omega), hid Th.out, hid (hre.out.congr (fun x _ => by rw [if_neg (by omega)])), hid hrl.out, hid hcells.out, hid hside.out⟩
        case round =>
          obtain ⟨j, A3, cp3, rfl, hnj, Tj, rre, rrl, rc, rs⟩ := hrel
          clear Th hre hrl hcells hside
          by_cases hj : j < k
          · have hj' : (j : Int) < (k : Int) := by omega
            have hwj : IntKind.i64.wrap ((j : Int) + 1) = ((j + 1 : Nat) : Int) := by rw [IntKind.wrap_i64]; omega
            have LK := hid (LINKh.out i j wr hi hj Tj.out.old)
            go_upto_region 19 with (go_at_call 27; refine LK.out.mono ?_; rintro e w3 ⟨rfl, K3⟩; have K3h := hid K3; clear K3)
            have hsB : ∃ sB, sB = w3.heap.size := ⟨_, rfl⟩
            obtain ⟨sB, hsB⟩ := hsB
            have T4 := hid ((Tj.out.beside hV0 K3h.out (fun b h => h.elim)).alloc hV0 (.cells #[.int .i64 0, .int .i64 1] 41))
            have re4 := hid ((rre.out.kept K3h.out id).alloc (.cells #[.int .i64 0, .int .i64 1] 41))
            have rl4 := hid ((rrl.out.kept K3h.out id).alloc (.cells #[.int .i64 0, .int .i64 1] 41))
            have ce4 := kept_cell rc.out.1 (K3h.out.alloc (.cells #[.int .i64 0, .int .i64 1] 41)) id
            have cl4 := kept_cell rc.out.2 (K3h.out.alloc (.cells #[.int .i64 0, .int .i64 1] 41)) id
            have b4 : (w3.alloc (.cells #[.int .i64 0, .int .i64 1] 41)).heap[sB]? = some (.cells #[.int .i64 0, .int .i64 1] 41 (0, 0)) := by rw [hsB]; exact heap_alloc_new w3 _
            have sE : sB ≠ Ed ∧ sB ≠ Lo ∧ sB ≠ re ∧ sB ≠ rl := by
              have h1 := (rre.out.kept K3h.out id).lt
              have h2 := (rrl.out.kept K3h.out id).lt
              have h3 := (Tj.out.beside hV0 K3h.out (fun b h => h.elim)).fin.ed.lt
              have h4 := (Tj.out.beside hV0 K3h.out (fun b h => h.elim)).fin.lo.lt
              omega
            have sP : Hid (¬ Priv V G O E A3 sB) := hid (fun h => by have := (Tj.out.beside hV0 K3h.out (fun b h => h.elim)).core.not_new hV0 h; omega)
            rw [← hsB]
            clear hsB
            generalize w3.alloc (.cells #[.int .i64 0, .int .i64 1] 41) = Wx at T4 re4 rl4 ce4 cl4 b4 ⊢
            have b4h := hid b4
            clear b4
            obtain ⟨s1, s2, s3, s4⟩ := sE
            have s5 : re ≠ sB := fun h => s3 h.symm
            have s6 : rl ≠ sB := fun h => s4 h.symm
            have ere : re ≠ Ed ∧ re ≠ Lo ∧ rl ≠ Ed ∧ rl ≠ Lo := by
              have a := rs.out.2.2.2.2.2.1
              have b := rs.out.2.2.2.2.2.2
              exact ⟨fun e => a (.inr (.inl e)), fun e => a (.inr (.inr (.inl e))), fun e => b (.inr (.inl e)), fun e => b (.inr (.inr (.inl e)))⟩
            obtain ⟨x1, x2, x3, x4⟩ := ere
            have x5 := rs.out.2.2.1
            by_cases hap : ap i j = true
            · have cs0 : Wx.cell? ⟨sB, 0, none⟩ = some (.int .i64 0) := by simp [World.cell?, b4h.out]
              have cs1 : Wx.cell? ⟨sB, 1, none⟩ = some (.int .i64 1) := by simp [World.cell?, b4h.out]
              obtain ⟨kj, hkj⟩ : ∃ x, x = k + j := ⟨_, rfl⟩
              have hwk : IntKind.i64.wrap ((k : Int) + (j : Int)) = (kj : Int) := by rw [IntKind.wrap_i64]; omega
              have hkjh := hid hkj
              clear hkj
              have hlen2 : (rowsE k ap i ++ (2 * k, i, 0) :: rowE k ap i j).length ≤ 200000 := by
                rw [List.length_append, List.length_cons]
                have := rowE_len k ap i j
                omega
              have BND := hid (bounded_any (u := i) (v := kj) (lo := 0) (hi := 1) T4.out.core.drew hV0 (by omega) (by have := NUM.out; omega) (by have := NUM.out; have := hkjh.out; omega) (by have := hkjh.out; omega) (by omega) (by omega) (by omega) (fun x _ => by have := excA_bd k (i := i + 1) (by omega) x; omega))
              obtain ⟨ix, hix⟩ : ∃ x, x = 2 * (rowsE k ap i ++ (2 * k, i, 0) :: rowE k ap i j).length := ⟨_, rfl⟩
              have hixh := hid hix
              clear hix
              have hre4 := re4.out.frozen j
              have hrl4 := rl4.out.frozen j
              go_upto_region 23 with fail
              go_region_held3 (fun X => X.cell? ⟨Ed, i, none⟩ = some (.slice (some ⟨re, 0, none⟩) k k) ∧ X.cell? ⟨Lo, i, none⟩ = some (.slice (some ⟨rl, 0, none⟩) k k) ∧ X.cell? ⟨sB, 0, none⟩ = some (.int .i64 0) ∧ X.cell? ⟨sB, 1, none⟩ = some (.int .i64 1)) (first | exact ⟨ce4, cl4, cs0, cs1⟩ | exact HS5 | go_keep)
                (first | (go_at_call 35; refine BND.out.mono ?_; rintro e w5 ⟨he5, A5, cp5, C5, K5, R5⟩; rw [← hixh.out] at he5; subst he5; have K5' : Kept (Priv V G O E A3) Wx w5 := ⟨K5.os, K5.tape, K5.output, K5.size, K5.block⟩; have T5 := hid (T4.out.more C5 K5' R5); have re5 := hid (re4.out.kept K5' rs.out.2.2.2.1); have rl5 := hid (rl4.out.kept K5' rs.out.2.2.2.2.1); have HS5 := And.intro (kept_cell ce4 K5' (T4.out.x Ed (.inr (.inl rfl))).2.2) (And.intro (kept_cell cl4 K5' (T4.out.x Lo (.inr (.inr (.inl rfl)))).2.2) (And.intro (kept_cell cs0 K5' sP.out) (kept_cell cs1 K5' sP.out))); have q1 := re5.out.cell hj; have q2 := rl5.out.cell hj; have q3 := re5.out.frozen j; have q4 := rl5.out.frozen j; have R5h := hid R5; have Ks5 := hid K5'.size; clear C5 K5 K5' R5))
              go_wp2
              go_roundg (gk - 1)
              case measure => have := hnj.out; omega
              case rel =>
                have Kw : Kept (fun b => b = re ∨ b = rl) w5 ((w5.setCell ⟨re, j, none⟩ (.int .i64 ix)).setCell ⟨rl, j, none⟩ (.int .i64 0)) := ((Kept.refl (fun b => b = re ∨ b = rl) w5).setCell (a := ⟨re, j, none⟩) (.inl rfl) _).setCell (a := ⟨rl, j, none⟩) (.inr rfl) _
                have np5 : ¬ Priv V G O E A5 re ∧ ¬ Priv V G O E A5 rl := by
                  have h1 := re4.out.lt
                  have h2 := rl4.out.lt
                  refine ⟨fun h => ?_, fun h => ?_⟩
                  · rcases R5h.out _ h with h | h
                    · exact rs.out.2.2.2.1 h
                    · have : Wx.heap.size ≤ re := h; omega
                  · rcases R5h.out _ h with h | h
                    · exact rs.out.2.2.2.2.1 h
                    · have : Wx.heap.size ≤ rl := h; omega
                refine ⟨j + 1, A5, cp5, rfl, hid (by have := hnj.out; omega), hid ?_, hid ?_, hid ?_, hid ⟨kept_cell HS5.1 Kw (fun e => e.elim (fun e => x1 e.symm) (fun e => x3 e.symm)), kept_cell HS5.2.1 Kw (fun e => e.elim (fun e => x2 e.symm) (fun e => x4 e.symm))⟩, hid ⟨rs.out.1, rs.out.2.1, rs.out.2.2.1, np5.1, np5.2, rs.out.2.2.2.2.2.1, rs.out.2.2.2.2.2.2⟩⟩
                · have h := T5.out.beside hV0 Kw (fun b h => by
                    rcases h with h | h
                    · subst h; exact ⟨rs.out.1, rs.out.2.2.2.2.2.1, np5.1⟩
                    · subst h; exact ⟨rs.out.2.1, rs.out.2.2.2.2.2.2, np5.2⟩)
                  rw [exc_same, hkjh.out] at h
                  rw [rowE_succ, hap, if_pos rfl]
                  have e1 : rowsE k ap i ++ (2 * k, i, 0) :: (rowE k ap i j ++ [(i, k + j, 1)]) = (rowsE k ap i ++ (2 * k, i, 0) :: rowE k ap i j) ++ [(i, k + j, 1 - 0)] := by simp
                  rw [e1]
                  exact h
                · refine ((re5.out.set j ix).setOther x5 _).congr fun x hx => ?_
                  by_cases e : x = j
                  · subst e
                    rw [upd_same, if_pos (by omega)]
                    unfold eF idxOf
                    rw [hap, if_pos rfl, hixh.out, List.length_append, List.length_cons]
                    congr 2
                    omega
                  · rw [upd_ne _ _ e]
                    by_cases h2 : x < j
                    · rw [if_pos h2, if_pos (by omega)]
                    · rw [if_neg h2, if_neg (by omega)]
                · refine ((rl5.out.setOther (fun e => x5 e.symm) _).set j 0).congr fun x hx => ?_
                  by_cases e : x = j
                  · subst e; rw [upd_same]
                  · rw [upd_ne _ _ e]
            · have hap' : ap i j = false := by simpa using hap
              clear hap
              have cre := re4.out.cell hj
              have fre := re4.out.frozen j
              go_wp2
              go_roundg (gk - 1)
              case measure => have := hnj.out; omega
              case rel =>
                have Kw : Kept (fun b => b = re) Wx (Wx.setCell ⟨re, j, none⟩ (.int .i64 (-1))) := (Kept.refl (fun b => b = re) Wx).setCell (a := ⟨re, j, none⟩) rfl _
                refine ⟨j + 1, A3, cp3, rfl, hid (by have := hnj.out; omega), hid ?_, hid ?_, hid (rl4.out.setOther (fun e => x5 e.symm) _), hid ⟨kept_cell ce4 Kw (fun e => x1 e.symm), kept_cell cl4 Kw (fun e => x2 e.symm)⟩, hid rs.out⟩
                · rw [rowE_succ, hap', if_neg (by simp), List.append_nil]
                  exact T4.out.beside hV0 Kw (fun b h => by subst h; exact ⟨rs.out.1, rs.out.2.2.2.2.2.1, rs.out.2.2.2.1⟩)
                · refine (re4.out.set j (-1)).congr fun x hx => ?_
                  by_cases e : x = j
                  · subst e; rw [upd_same, if_pos (by omega)]; unfold eF; rw [hap', if_neg (by simp)]
                  · rw [upd_ne _ _ e]
                    by_cases h2 : x < j
                    · rw [if_pos h2, if_pos (by omega)]
                    · rw [if_neg h2, if_neg (by omega)]
          · have hj' : ¬ (j : Int) < (k : Int) := by omega
            have hjk : k = j := by have := hnj.out; omega
            subst hjk
            go_wp2
            go_roundg (gk0 - 1)
            case measure => have := hn.out; omega
            case rel =>
              refine ⟨i + 1, A3, cp3, upd Re i re, upd Rl i rl, rfl, rfl, hid (by have := hn.out; omega), hid ?_⟩
              have h := Tj.out.next rc.out.1 rc.out.2 (rre.out.congr (fun x hx => by rw [if_pos hx])) rrl.out ⟨rs.out.1, rs.out.2.2.2.1⟩ ⟨rs.out.2.1, rs.out.2.2.2.2.1⟩ (by
                have a := rs.out.2.2.2.2.2.1
                have b := rs.out.2.2.2.2.2.2
                exact ⟨fun e => a (.inr (.inl e)), fun e => a (.inr (.inr (.inl e))), fun e => b (.inr (.inl e)), fun e => b (.inr (.inr (.inl e)))⟩)
              rw [rowsE_succ]
              exact h
    · have hi' : ¬ (i : Int) < (k : Int) := by omega
      have hik : k = i := by have := hn.out; omega
      subst hik
      clear hi
      go_wp2_with fail
      go_loopg [137] k (fun n v137 wr => ∃ (j : Nat) (A : Nat → Option Addr) (cp : Nat → Nat), v137 = .int .i64 j ∧ Hid (n + j = k) ∧ Hid (TI w0 wr k V base G O E Pg Pe P4 Ed Lo k A cp (rowsE k ap k ++ sinksE k j) (excB k j) Re Rl (eF k ap)))
      case atStart => exact ⟨0, A, cp, rfl, hid (by omega), hid (by have h := Th.out; rw [excB_zero] at h; simpa [sinksE] using h)⟩
      case round =>
        obtain ⟨j, A3, cp3, rfl, hnj, Tj⟩ := hrel
        clear Th
        have hlen : (rowsE k ap k ++ sinksE k j).length ≤ 100000 := by
          have h1 := rowsE_len k ap k
          have h2 : k * (k + 1) ≤ 256 * 257 := Nat.mul_le_mul (by omega) (by omega)
          have h3 := sinksE_len k j
          have h4 := hnj.out
          rw [List.length_append]
          omega
        by_cases hj : j < k
        · have hj' : (j : Int) < (k : Int) := by omega
          have hwj : IntKind.i64.wrap ((j : Int) + 1) = ((j + 1 : Nat) : Int) := by rw [IntKind.wrap_i64]; omega
          obtain ⟨kj, hkj⟩ : ∃ x, x = k + j := ⟨_, rfl⟩
          have hwk : IntKind.i64.wrap ((k : Int) + (j : Int)) = (kj : Int) := by rw [IntKind.wrap_i64]; omega
          have hkjh := hid hkj
          clear hkj
          have p0 : wr.cell? ⟨P4, 0, none⟩ = some (.int .i64 1) := by simp [World.cell?, Tj.out.fin.p4]
          have p1 : wr.cell? ⟨P4, 1, none⟩ = some (.int .i64 1) := by simp [World.cell?, Tj.out.fin.p4]
          have BND := hid (bounded_any (u := kj) (v := snk) (lo := 1) (hi := 1) Tj.out.core hV0 (by omega) (by have := NUM.out; have := hkjh.out; omega) (by have := NUM.out; omega) (by have := NUM.out; have := hkjh.out; omega) (by omega) (Nat.le_refl _) (by omega) (fun x _ => by have := excB_bd k (j := j) (by omega) x; omega))
          go_wp2_with (go_at_call 35; refine BND.out.mono ?_; rintro e w2 ⟨rfl, A2, cp2, C2, K2, R2⟩; have T2 := hid (Tj.out.more C2 K2 R2); clear C2 K2 R2)
          go_roundg (gk - 1)
          case measure => have := hnj.out; omega
          case rel =>
            refine ⟨j + 1, A2, cp2, rfl, hid (by have := hnj.out; omega), hid ?_⟩
            have h := T2.out
            rw [hkjh.out, NUM.out.2.1, excB_succ k hj, List.append_assoc] at h
            rw [sinksE_succ]
            exact h
        · have hj' : ¬ (j : Int) < (k : Int) := by omega
          have hjk : k = j := by have := hnj.out; omega
          subst hjk
          clear hj
          have pg := Tj.out.core.pg
          have ADD := hid (add_any (u := snk) (v := src) (c := k) Tj.out.core.st (by omega) (by have := NUM.out; omega) (by have := NUM.out; omega) (by have := NUM.out; omega) (fun i _ => by have := lsOf_len (rowsE k ap k ++ sinksE k k) i; omega) Tj.out.core.hb)
          go_upto_region 32 with (go_at_call 36; refine ADD.out.mono ?_; rintro e w2 ⟨rfl, A2, cp2, S2, K2, F2⟩; have T2 := hid (by exact And.intro S2 (And.intro K2 F2)); clear S2 K2 F2)
          have T3 : Hid (TI w0 w2 k V base G O E Pg Pe P4 Ed Lo k A2 cp2 (rowsE k ap k ++ sinksE k k ++ [(2 * k + 1, 2 * k, k)]) (excB k k) Re Rl (eF k ap)) := hid (by
            obtain ⟨a1, a2, a3⟩ := Tj.out.core.added hV0 (by have := NUM.out; omega) T2.out.1 T2.out.2.1 T2.out.2.2
            rw [NUM.out.1, NUM.out.2.1] at a1
            exact Tj.out.more a1 a2 a3)
          clear T2 ADD Tj pg
          have pe := T3.out.core.pe
          go_wp2_with fail
          go_loopg [155, 23] V (fun n v155 v23 wr => ∃ (v : Nat) (A : Nat → Option Addr) (cp : Nat → Nat), v155 = .int .i64 v ∧ v23 = .int .i64 (needA k v) ∧ Hid (n + v = V) ∧ Hid (TI w0 wr k V base G O E Pg Pe P4 Ed Lo k A cp (rowsE k ap k ++ sinksE k k ++ [(2 * k + 1, 2 * k, k)] ++ excE k v) (excB k k) Re Rl (eF k ap)))
          case atStart => exact ⟨0, A2, cp2, rfl, rfl, hid (by omega), hid (by have h := T3.out; simpa [excE] using h)⟩
          case round =>
            obtain ⟨v, A4, cp4, rfl, rfl, hnv, Tv⟩ := hrel
            clear T3 pe
            have hlen4 : (rowsE k ap k ++ sinksE k k ++ [(2 * k + 1, 2 * k, k)] ++ excE k v).length ≤ 100000 := by
              have h1 := rowsE_len k ap k
              have h2 : k * (k + 1) ≤ 256 * 257 := Nat.mul_le_mul (by omega) (by omega)
              have h3 := sinksE_len k k
              have h4 := hnv.out
              have h5 := excE_len k v
              simp only [List.length_append, List.length_singleton]
              omega
            clear hlen
            by_cases hv : v < V
            · have hv' : (v : Int) < (V : Int) := by omega
              have hwv : IntKind.i64.wrap ((v : Int) + 1) = ((v + 1 : Nat) : Int) := by rw [IntKind.wrap_i64]; omega
              have hv4 : v < 2 * k + 4 := by have := NUM.out; omega
              have hbd := excB_bd k (j := k) (Nat.le_refl _) v
              have hnd := needA_le k v
              have cE := Tv.out.core.exc.cell hv
              have pg := Tv.out.core.pg
              generalize hev : excB k k v = ev at cE hbd
              have hevh := hid hev
              clear hev
              rcases Int.lt_trichotomy ev 0 with h | h | h
              · obtain ⟨c, hc⟩ : ∃ c : Nat, ev = -(c : Int) := ⟨(-ev).toNat, by omega⟩
                have hwn : IntKind.i64.wrap (-ev) = (c : Int) := by rw [IntKind.wrap_i64]; omega
                have h' : ¬ 0 < ev := by omega
                have hch := hid hc
                have hne := exc_ne hv4 (by rw [hevh.out]; omega)
                have HN := hid (exc_neg hv4 (c := c) (by rw [hevh.out]; exact hc) (by omega))
                clear hc
                have ADD := hid (add_any (u := v) (v := un) (c := c) Tv.out.core.st (by omega) hv (by have := NUM.out; omega) (by have := NUM.out; omega) (fun i _ => by have := lsOf_len (rowsE k ap k ++ sinksE k k ++ [(2 * k + 1, 2 * k, k)] ++ excE k v) i; omega) Tv.out.core.hb)
                go_wp2_with (go_at_call 36; refine ADD.out.mono ?_; rintro e w2 ⟨rfl, A2, cp2, S2, K2, F2⟩; have T2 := hid (by exact And.intro S2 (And.intro K2 F2)); clear S2 K2 F2)
                go_roundg (gk - 1)
                case measure => have := hnv.out; omega
                case rel =>
                  refine ⟨v + 1, A2, cp2, rfl, by rw [HN.out.2], hid (by have := hnv.out; omega), hid ?_⟩
                  obtain ⟨a1, a2, a3⟩ := Tv.out.core.added hV0 (by have := NUM.out; omega) T2.out.1 T2.out.2.1 T2.out.2.2
                  rw [NUM.out.2.2.2.1, List.append_assoc _ (excE k v), ← HN.out.1, ← excE_succ] at a1
                  exact Tv.out.more a1 a2 a3
              · subst h
                have HN := hid (exc_nil hv4 hevh.out)
                go_wp2
                go_roundg (gk - 1)
                case measure => have := hnv.out; omega
                case rel =>
                  refine ⟨v + 1, A4, cp4, rfl, by rw [HN.out.2], hid (by have := hnv.out; omega), hid ?_⟩
                  rw [excE_succ, HN.out.1, List.append_nil]
                  exact Tv.out
              · obtain ⟨c, hc⟩ : ∃ c : Nat, ev = (c : Int) := ⟨ev.toNat, by omega⟩
                subst hc
                have hc0 : 0 < c := by omega
                obtain ⟨nd, hnd2⟩ : ∃ x, x = needA k v + c := ⟨_, rfl⟩
                have hwn : IntKind.i64.wrap ((needA k v : Int) + (c : Int)) = (nd : Int) := by rw [IntKind.wrap_i64]; omega
                have hnd2h := hid hnd2
                clear hnd2
                have hne := exc_ne hv4 (by rw [hevh.out]; omega)
                have HN := hid (exc_pos hv4 (c := c) hevh.out hc0)
                have ADD := hid (add_any (u := ov) (v := v) (c := c) Tv.out.core.st (by omega) (by have := NUM.out; omega) hv (by have := NUM.out; omega) (fun i _ => by have := lsOf_len (rowsE k ap k ++ sinksE k k ++ [(2 * k + 1, 2 * k, k)] ++ excE k v) i; omega) Tv.out.core.hb)
                go_wp2_with (go_at_call 36; refine ADD.out.mono ?_; rintro e w2 ⟨rfl, A2, cp2, S2, K2, F2⟩; have T2 := hid (by exact And.intro S2 (And.intro K2 F2)); clear S2 K2 F2)
                go_roundg (gk - 1)
                case measure => have := hnv.out; omega
                case rel =>
                  refine ⟨v + 1, A2, cp2, rfl, by rw [HN.out.2, hnd2h.out], hid (by have := hnv.out; omega), hid ?_⟩
                  obtain ⟨a1, a2, a3⟩ := Tv.out.core.added hV0 (by have := NUM.out; omega) T2.out.1 T2.out.2.1 T2.out.2.2
                  rw [NUM.out.2.2.1, List.append_assoc _ (excE k v), ← HN.out.1, ← excE_succ] at a1
                  exact Tv.out.more a1 a2 a3
            · have hv' : ¬ (v : Int) < (V : Int) := by omega
              have hvV : V = v := by have := hnv.out; omega
              subst hvV
              clear hv
              have TF : Hid (TI w0 wr k V base G O E Pg Pe P4 Ed Lo k A4 cp4 (esOf k ap) (excB k k) Re Rl (eF k ap)) := hid (by
                have h := Tv.out
                unfold esOf
                rw [← NUM.out.2.2.2.2]
                exact h)
              clear Tv
              obtain ⟨nd, hnd⟩ : ∃ x, x = needA k V := ⟨_, rfl⟩
              rw [← hnd]
              have hndh : Hid (nd = 2 * k) := hid (by rw [hnd, NUM.out.2.2.2.2, needA_end])
              have pg := TF.out.core.pg
              obtain ⟨H, R, hAR, NT, rR⟩ := TF.out.core.st.net (esOf_len k ap hk).2
              have FC := fctx (ap := ap) hk
              have MF := maxFlow_any FC wr (by rw [← NUM.out.2.2.2.2]; exact NT) rR
              have MFe : outerF (outL (esOf k ap)) (headL (esOf k ap)) (2 * (esOf k ap).length) (2 * k + 3) (2 * k + 4) (2 * k + 2) (Dsum (headL (esOf k ap)) (2 * (esOf k ap).length) (roomL (esOf k ap)) (2 * k + 2) + 1) (roomL (esOf k ap)) 0 = flowOf k ap := rfl
              rw [MFe, ← NUM.out.2.2.1, ← NUM.out.2.2.2.1] at MF
              have MFh := hid MF
              have NTh := hid NT
              have hARh := hid hAR
              clear FC MF MFe hnd NT rR hAR
              obtain ⟨wr4, hwr4⟩ : ∃ x, x = wr := ⟨_, rfl⟩
              subst hwr4
              have hRP : Hid (Priv V G O E A4 R) := hid (.inr (.inr (.inr ⟨1, by omega, hARh.out⟩)))
              obtain ⟨fl, hfl⟩ : ∃ x, x = (flowOf k ap).1 := ⟨_, rfl⟩
              rw [← hfl] at MFh
              have hflh := hid hfl
              clear hfl
              by_cases hlt : fl < nd
              · go_wp2_with (go_at_call 37; refine MFh.out.mono ?_; rintro e w2 ⟨rfl, hR2, K2⟩; have K2h := hid K2; clear hR2 K2)
                go_ret
                unfold TPost
                refine ⟨TF.out.old.join K2h.out (fun b hb h => ?_), .inl ⟨by have := hndh.out; have := hflh.out; omega, rfl⟩⟩
                have := TF.out.priv_new hRP.out
                omega
              · go_upto_region 44 with (go_at_call 37; refine MFh.out.mono ?_; rintro e w2 ⟨rfl, hR2, K2⟩; have K2h := hid K2; have hR2h := hid hR2; clear hR2 K2)
                have OLD := hid (TF.out.old.join K2h.out (fun b hb h => by have := TF.out.priv_new hRP.out; omega))
                have FIN := hid (TF.out.fin.of_block (Pg := Pg) (Pe := Pe) (fun b hb h => K2h.out.block b hb (fun e => (TF.out.x b h).2.2 (e ▸ hRP.out))))
                have PG := hid (kept_cell TF.out.core.pg K2h.out (fun e => TF.out.core.xPg (e ▸ hRP.out)))
                have GC := hid (kept_cell NTh.out.f2 K2h.out NTh.out.xg)
                have RR := hR2h
                obtain ⟨wF, hwF⟩ : ∃ x, x = w2 := ⟨_, rfl⟩
                subst hwF
                clear K2h TF NTh MFh hRP hARh hR2h
                obtain ⟨X, hX⟩ : ∃ x, x = wF.heap.size := ⟨_, rfl⟩
                go_wp2_with fail
                rw [← hX]
                go_loopg [190] k (fun n v190 wr => ∃ (i : Nat) (Rx : Nat → Nat), v190 = .int .i64 i ∧ Hid (n + i = k) ∧ Hid (Kept (fun _ => False) wF wr) ∧ Hid (XM wr wF.heap.size X k i Rx (fun r j => (pairX k ap r j : Int))))
                case atStart => exact ⟨0, fun _ => 0, rfl, hid (by omega), hid ((Kept.refl _ wF).alloc _), hid (XM.made wF _ X k hX (Nat.le_refl _) _ _)⟩
                case round =>
                  obtain ⟨i, Rx, rfl, hn, KX, hXM⟩ := hrel
                  obtain ⟨gk5, hgk5⟩ : ∃ x, x = gk := ⟨_, rfl⟩
                  subst hgk5
                  obtain ⟨wr5, hwr5⟩ : ∃ x, x = wr := ⟨_, rfl⟩
                  subst hwr5
                  have hXh := hid hX
                  clear hX
                  by_cases hi : i < k
                  · have hi' : (i : Int) < (k : Int) := by omega
                    have hwi : IntKind.i64.wrap ((i : Int) + 1) = ((i + 1 : Nat) : Int) := by rw [IntKind.wrap_i64]; omega
                    obtain ⟨vx, cvx⟩ := hXM.out.tbl.has hi
                    have fvx := hXM.out.tbl.frozen i
                    have hXl := hXM.out.tbl.lt
                    obtain ⟨rx, hrx⟩ : ∃ x, x = wr5.heap.size := ⟨_, rfl⟩
                    obtain ⟨a1, a2, a3, a4, a5, a6, a7⟩ := hXM.out.rowNew (KX.out.size) hi hrx rfl
                    have A1 := hid a1
                    have A2 := hid a2
                    have A3 := hid a3
                    have A7 := hid (KX.out.join a7 (by intro b hb h; have := hXh.out; omega))
                    have a6h := hid a6
                    clear a1 a2 a3 a6 a7
                    go_upto_region 49 with fail
                    rw [← hrx]
                    generalize (wr5.setCell ⟨X, i, none⟩ (.slice (some ⟨rx, 0, none⟩) k k)).alloc (.cells (madeCells #[.int .i64 0] k) 3) = W5 at A1 A2 A3 A7 ⊢
                    clear hrx cvx fvx hXl
                    have ce := kept_cell (FIN.out.ed.cell hi) A7.out id
                    go_wp2_with fail
                    go_loopg [203] k (fun n v203 wr => ∃ j : Nat, v203 = .int .i64 j ∧ Hid (n + j = k) ∧ Hid (Kept (fun _ => False) wF wr) ∧ Hid (XM wr wF.heap.size X k i Rx (fun r j => (pairX k ap r j : Int))) ∧ Hid (IRow wr rx k (fun x => if x < j then (pairX k ap i x : Int) else 0)) ∧ Hid (wr.cell? ⟨X, i, none⟩ = some (.slice (some ⟨rx, 0, none⟩) k k)))
                    case atStart => exact ⟨0, rfl, hid (by omega), hid A7.out, hid A1.out, hid (A2.out.congr (fun x _ => by rw [if_neg (by omega)])), hid A3.out⟩
                    case round =>
                      obtain ⟨j, rfl, hnj, KJ, XJ, RJ, CJ⟩ := hrel
                      clear A1 A2 A3 A7 ce KX hXM
                      by_cases hj : j < k
                      · have hj' : (j : Int) < (k : Int) := by omega
                        have hwj : IntKind.i64.wrap ((j : Int) + 1) = ((j + 1 : Nat) : Int) := by rw [IntKind.wrap_i64]; omega
                        have cev := ((FIN.out.er i hi).kept KJ.out id).cell hj
                        have hrx := RJ.out.cell hj
                        have frx := RJ.out.frozen j
                        by_cases hap : ap i j = true
                        · obtain ⟨y1, y2, y3⟩ := idx_lt hi hj hap
                          obtain ⟨e2, he2⟩ : ∃ x, x = 2 * idxOf k ap i j := ⟨_, rfl⟩
                          have he3 : eF k ap i j = (e2 : Int) := by unfold eF; rw [if_pos hap, he2]
                          rw [he3] at cev
                          rw [← he2] at y1 y2 y3
                          obtain ⟨px, hpx⟩ : ∃ x, x = pairX k ap i j := ⟨_, rfl⟩
                          have hpxb : px ≤ 1000000 := by have := pairX_le k ap i j; omega
                          have GCJ := kept_cell GC.out KJ.out id
                          have FLW := hid (flow_any G R (2 * (esOf k ap).length) (cp4 1) e2 _ wr.drew GCJ ((RR.out.kept KJ.out id).of_block rfl) y1 y2 (by have := esOf_len k ap hk; omega))
                          have hpxh := hid hpx
                          have hFe : Hid ((((flowOf k ap).2 (mate e2) : Nat) : Int) = (px : Int)) := hid (by rw [y3, hpx])
                          have he2h := hid he2
                          clear he3 y3 hpx he2 GCJ
                          have cXi := CJ.out
                          have cLi := kept_cell (FIN.out.lo.cell hi) KJ.out id
                          have cLj := ((FIN.out.lr i hi).kept KJ.out id).cell hj
                          have cPg := kept_cell PG.out KJ.out id
                          have z1 : rx ≠ Lo := fun e => by have := FIN.out.lo.lt; omega
                          have z2 : rx ≠ Rl i := fun e => by have := (FIN.out.lr i hi).lt; omega
                          have z3 : rx ≠ Pg := fun e => by have := World.block_lt_of_cell? _ _ PG.out; simp only at this; omega
                          have hwp : IntKind.i64.wrap (px : Int) = (px : Int) := by rw [IntKind.wrap_i64]; omega
                          go_upto_region 53 with fail
                          go_region_held3 (fun Y => Y.cell? ⟨X, i, none⟩ = some (.slice (some ⟨rx, 0, none⟩) k k) ∧ Y.cell? ⟨Lo, i, none⟩ = some (.slice (some ⟨Rl i, 0, none⟩) k k) ∧ Y.cell? ⟨Rl i, j, none⟩ = some (.int .i64 0) ∧ Y.cell? ⟨Pg, 0, none⟩ = some (.pointer (some ⟨G, 0, none⟩))) (first | exact ⟨cXi, cLi, cLj, cPg⟩ | go_keep)
                            (first | (go_at_call 38; refine FLW.out.mono ?_; rintro e w6 ⟨he6, rfl⟩; rw [hFe.out] at he6; subst he6))
                          go_wp2
                          go_roundg (gk - 1)
                          case measure => have := hnj.out; omega
                          case rel =>
                            have Kw : Kept (fun b => b = rx) wr (wr.setCell ⟨rx, j, none⟩ (.int .i64 px)).drew := ((Kept.refl (fun b => b = rx) wr).setCell (a := ⟨rx, j, none⟩) rfl _).drew
                            refine ⟨j + 1, rfl, hid (by have := hnj.out; omega), hid (KJ.out.join Kw (by intro b hb h; omega)), hid (XJ.out.kept Kw (fun e => a5 e.symm) a6h.out), hid ?_, hid (kept_cell CJ.out Kw (fun e => a5 e.symm))⟩
                            refine ((RJ.out.set j px).of_block (w' := (wr.setCell ⟨rx, j, none⟩ (.int .i64 px)).drew) rfl).congr fun x hx => ?_
                            by_cases e : x = j
                            · subst e; rw [upd_same, if_pos (by omega), hpxh.out]
                            · rw [upd_ne _ _ e]
                              by_cases h2 : x < j
                              · rw [if_pos h2, if_pos (by omega)]
                              · rw [if_neg h2, if_neg (by omega)]
                        · have hap' : ap i j = false := by simpa using hap
                          have he3 : eF k ap i j = -1 := by unfold eF; rw [if_neg hap]
                          rw [he3] at cev
                          have hap'h := hid hap'
                          clear hap hap' he3
                          go_wp2
                          go_roundg (gk - 1)
                          case measure => have := hnj.out; omega
                          case rel =>
                            refine ⟨j + 1, rfl, hid (by have := hnj.out; omega), hid KJ.out, hid XJ.out, hid ?_, hid CJ.out⟩
                            refine RJ.out.congr fun x hx => ?_
                            by_cases h2 : x < j
                            · rw [if_pos h2, if_pos (by omega)]
                            · rw [if_neg h2]
                              by_cases e : x = j
                              · subst e; rw [if_pos (by omega), pairX_none hap'h.out]; rfl
                              · rw [if_neg (by omega)]
                      · have hj' : ¬ (j : Int) < (k : Int) := by omega
                        have hjk : k = j := by have := hnj.out; omega
                        subst hjk
                        go_wp2
                        go_roundg (gk5 - 1)
                        case measure => have := hn.out; omega
                        case rel =>
                          refine ⟨i + 1, upd Rx i rx, rfl, hid (by have := hn.out; omega), hid KJ.out, hid ?_⟩
                          exact XJ.out.next CJ.out (RJ.out.congr (fun x hx => by rw [if_pos hx])) a4 a5 a6h.out
                  · have hi' : ¬ (i : Int) < (k : Int) := by omega
                    have hik : k = i := by have := hn.out; omega
                    subst hik
                    go_wp2
                    go_ret
                    unfold TPost
                    refine ⟨OLD.out.join KX.out (by intro b hb h; exact h), .inr ⟨by have := hndh.out; have := hflh.out; omega, X, Rx, rfl, ?_⟩⟩
                    have hs := OLD.out.size
                    have h := hXM.out
                    exact ⟨h.tbl, h.row, Nat.le_trans hs h.nX, fun r hr => ⟨Nat.le_trans hs (h.nR r hr).1, (h.nR r hr).2⟩, h.inj⟩
end Go.Proofs.Qxb6613837a
