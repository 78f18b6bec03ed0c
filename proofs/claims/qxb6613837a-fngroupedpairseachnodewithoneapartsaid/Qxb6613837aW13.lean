import Derived.Test.Qxb6613837aW12
namespace Go.Proofs.Qxb6613837a
open Go.RowKit
set_option linter.unusedVariables false

theorem Core.not_new {w : World} {base V G O E Pg Pe : Nat} {A : Nat → Option Addr} {cp : Nat → Nat} {es : Es} {exc : Nat → Int} (C : Core w base V G O E Pg Pe A cp es exc) (hV : 0 < V) {b : Nat} (h : Priv V G O E A b) : b < w.heap.size := by
  rcases h with h | h | h | h
  · subst h; exact C.exc.lt
  · subst h; exact C.st.glt
  · subst h; exact C.st.Olt hV
  · exact (C.st.fam.foot_lt h).2
/-- The struct is the network of one edge more. -/
theorem Core.added {w w' : World} {base V G O E Pg Pe u v c : Nat} {A A' : Nat → Option Addr} {cp cp' : Nat → Nat} {es : Es} {exc : Nat → Int} (C : Core w base V G O E Pg Pe A cp es exc) (hV : 0 < V) (huv : u ≠ v)
    (S : St w' base G O V A' cp' (upd (upd (upd (upd (lsOf es) 0 (lsOf es 0 ++ [v, u])) 1 (lsOf es 1 ++ [c, 0])) (u + 2) (lsOf es (u + 2) ++ [(lsOf es 0).length])) (v + 2) (lsOf es (v + 2) ++ [(lsOf es 0).length + 1])))
    (K : Kept (fun b => b = G ∨ b = O ∨ Foot (V + 2) A b) w w') (F : ∀ b, Foot (V + 2) A' b → Foot (V + 2) A b ∨ w.heap.size ≤ b) :
    Core w' base V G O E Pg Pe A' cp' (es ++ [(u, v, c)]) exc ∧ Kept (Priv V G O E A) w w' ∧ (∀ b, Priv V G O E A' b → Priv V G O E A b ∨ w.heap.size ≤ b) := by
  have hE := C.exc.lt
  have hPg := World.block_lt_of_cell? w _ C.pg
  have hPe := World.block_lt_of_cell? w _ C.pe
  simp only at hPg hPe
  have rule : ∀ b, Priv V G O E A' b → Priv V G O E A b ∨ w.heap.size ≤ b := by
    intro b h
    rcases h with h | h | h | h
    · exact .inl (.inl h)
    · exact .inl (.inr (.inl h))
    · exact .inl (.inr (.inr (.inl h)))
    · rcases F b h with h | h
      · exact .inl (.inr (.inr (.inr h)))
      · exact .inr h
  have hls : (upd (upd (upd (upd (lsOf es) 0 (lsOf es 0 ++ [v, u])) 1 (lsOf es 1 ++ [c, 0])) (u + 2) (lsOf es (u + 2) ++ [(lsOf es 0).length])) (v + 2) (lsOf es (v + 2) ++ [(lsOf es 0).length + 1])) = lsOf (es ++ [(u, v, c)]) := by
    funext i
    rw [lsOf_snoc es u v c huv i, lsOf_zero]
  rw [hls] at S
  refine ⟨⟨S, C.exc.kept K C.xE, kept_cell C.pg K (fun h => C.xPg (.inr h)), kept_cell C.pe K (fun h => C.xPe (.inr h)), fun h => ?_, fun h => ?_, fun h => ?_, Nat.le_trans C.hb K.size⟩, K.mono (fun b h => .inr h), rule⟩
  · rcases h with h | h | h
    · exact C.xE (.inl h)
    · exact C.xE (.inr (.inl h))
    · rcases F E h with h | h
      · exact C.xE (.inr (.inr h))
      · omega
  · rcases rule Pg h with h | h
    · exact C.xPg h
    · omega
  · rcases rule Pe h with h | h
    · exact C.xPe h
    · omega

set_option maxRecDepth 100000 in
set_option maxHeartbeats 1000000 in
theorem bounded_any {w : World} {base V G O E Pg Pe u v lo hi : Nat} {A : Nat → Option Addr} {cp : Nat → Nat} {es : Es} {exc : Nat → Int} (C : Core w base V G O E Pg Pe A cp es exc) (hV0 : 0 < V) (hV : V ≤ 1000000) (hu : u < V) (hv : v < V) (huv : u ≠ v) (hes : es.length ≤ 1000000)
    (hlo : lo ≤ hi) (hhi : hi ≤ 1000) (hx : ∀ x, x < V → -1000000 ≤ exc x ∧ exc x ≤ 1000000) :
    Calls Try.prog 35 #[.int .i64 u, .int .i64 v, .agg #[.int .i64 lo, .int .i64 hi], .pointer (some ⟨Pe, 0, none⟩), .pointer (some ⟨Pg, 0, none⟩)] w fun e w' => e = .returned (.int .i64 (2 * es.length : Nat)) ∧ ∃ A' cp',
      Core w' base V G O E Pg Pe A' cp' (es ++ [(u, v, hi - lo)]) (upd (upd exc u (exc u - lo)) v (exc v + lo)) ∧ Kept (Priv V G O E A) w w' ∧ (∀ b, Priv V G O E A' b → Priv V G O E A b ∨ w.heap.size ≤ b) := by
  obtain ⟨B, hB⟩ : ∃ B, B = w.heap.size := ⟨_, rfl⟩
  have C0 := hid (C.alloc hV0 (.cells #[.int .i64 lo, .int .i64 hi] 41))
  have k0 : Kept (Priv V G O E A) w (w.alloc (.cells #[.int .i64 lo, .int .i64 hi] 41)) := (Kept.refl _ w).alloc _
  have xB : Hid (¬ Priv V G O E A B) := hid (fun h => by have := C.not_new hV0 h; omega)
  have b0 : (w.alloc (.cells #[.int .i64 lo, .int .i64 hi] 41)).heap[B]? = some (.cells #[.int .i64 lo, .int .i64 hi] 41 (0, 0)) := by subst hB; exact heap_alloc_new w _
  have hxu := hx u hu
  have hxv := hx v hv
  have Ch := hid C
  have hxh := hid hx
  have k0h := hid k0
  have b0h := hid b0
  have hBh := hid hB
  clear C hx k0 b0
  go_enter Try.func35, Try.ntmps35
  go_upto_region 1 with fail
  rw [← hB]
  clear hB
  generalize w.alloc (.cells #[.int .i64 lo, .int .i64 hi] 41) = W at C0 k0h b0h ⊢
  have pe := C0.out.pe
  have cEu := C0.out.exc.cell hu
  have fEu := C0.out.exc.frozen u
  have cB0 : W.cell? ⟨B, 0, none⟩ = some (.int .i64 lo) := by simp [World.cell?, b0h.out]
  have hPeE : Pe ≠ E := fun e => C0.out.xPe (.inl e)
  have hBE : B ≠ E := fun e => xB.out (.inl e)
  have hw1 : IntKind.i64.wrap (exc u - lo) = exc u - lo := by rw [IntKind.wrap_i64]; omega
  go_cut [7] from 9 (fun v7 wc => v7 = .pointer (some ⟨B, 0, none⟩) ∧ Hid (Core wc base V G O E Pg Pe A cp es (upd exc u (exc u - lo))) ∧ Hid (wc.heap[B]? = some (.cells #[.int .i64 lo, .int .i64 hi] 41 (0, 0))) ∧ Hid (Kept (Priv V G O E A) w wc))
  case first =>
    go_region
    all_goals go_wp2_with fail
    all_goals go_meet
    all_goals exact ⟨rfl, hid (C0.out.drew.setExc hV0 u _), hid ((Below.heap_setCell _ _ _ _ hBE).trans b0h.out), hid (k0h.out.drew.setCell (.inl rfl) _)⟩
  case rest =>
    clear pe cEu fEu cB0 hw1
    obtain ⟨rfl, C1, b1, k1⟩ := hcut
    have pe := C1.out.pe
    have cEv := C1.out.exc.cell hv
    rw [upd_ne _ _ (fun e => huv e.symm)] at cEv
    have fEv := C1.out.exc.frozen v
    have cB0 : wc.cell? ⟨B, 0, none⟩ = some (.int .i64 lo) := by simp [World.cell?, b1.out]
    have hw1 : IntKind.i64.wrap (exc v + lo) = exc v + lo := by rw [IntKind.wrap_i64]; omega
    go_upto_region 2 with fail
    obtain ⟨wd, hwd⟩ : ∃ x, x = wc := ⟨_, rfl⟩
    subst hwd
    go_cut [7] from 9 (fun v7 wc => v7 = .pointer (some ⟨B, 0, none⟩) ∧ Hid (Core wc base V G O E Pg Pe A cp es (upd (upd exc u (exc u - lo)) v (exc v + lo))) ∧ Hid (wc.heap[B]? = some (.cells #[.int .i64 lo, .int .i64 hi] 41 (0, 0))) ∧ Hid (Kept (Priv V G O E A) w wc))
    case first =>
      go_region
      all_goals go_wp2_with fail
      all_goals go_meet
      all_goals exact ⟨rfl, hid (C1.out.drew.setExc hV0 v _), hid ((Below.heap_setCell _ _ _ _ hBE).trans b1.out), hid (k1.out.drew.setCell (.inl rfl) _)⟩
    case rest =>
      clear pe cEv fEv cB0 hw1
      obtain ⟨rfl, C2, b2, k2⟩ := hcut
      have pg := C2.out.pg
      have cB0 : wc.cell? ⟨B, 0, none⟩ = some (.int .i64 lo) := by simp [World.cell?, b2.out]
      have cB1 : wc.cell? ⟨B, 1, none⟩ = some (.int .i64 hi) := by simp [World.cell?, b2.out]
      obtain ⟨c, hc⟩ : ∃ c, c = hi - lo := ⟨_, rfl⟩
      have hw1 : IntKind.i64.wrap ((hi : Int) - lo) = (c : Int) := by rw [IntKind.wrap_i64]; omega
      have hch := hid hc
      clear hc
      have ADD := hid (add_any (c := c) C2.out.st hV hu hv huv (fun i _ => by have := lsOf_len es i; omega) C2.out.hb)
      go_wp2_with (go_at_call 36; refine ADD.out.mono ?_; rintro e w1 ⟨rfl, A', cp', S1, K1, F1⟩; have S1h := hid S1; have K1h := hid K1; have F1h := hid F1; clear S1 K1 F1)
      go_ret
      obtain ⟨r1, r2, r3⟩ := C2.out.added hV0 huv S1h.out K1h.out F1h.out
      rw [hch.out] at r1
      refine ⟨by rw [lsOf_zero]; rfl, A', cp', r1, k2.out.trans r2, fun b hb => ?_⟩
      rcases r3 b hb with h | h
      · exact .inl h
      · right; have := k2.out.size; omega
end Go.Proofs.Qxb6613837a
