import Derived.Test.Qxb6613837aW3b
namespace Go.Proofs.Qxb6613837a
open Go.RowKit
set_option linter.unusedVariables false

set_option maxRecDepth 100000 in
set_option maxHeartbeats 3000000 in
theorem push_any {V m g O H R L N cH cR cL cN t : Nat} {row : Nat → Option Addr} {cap : Nat → Nat} {out : Nat → List Nat} {head : Nat → Nat} {level : Nat → Int} {ex : Nat → Prop} (C : Ctx V m out head level ex L N R) (ht : t < V) :
    ∀ (d u limit : Nat) (room next : Nat → Nat) (w : World), (∀ y, level y < level u + (d : Int)) → u < V → limit ≤ maxI → (∀ e, room e + room (mate e) ≤ 1000000000) → (∀ x, next x ≤ (out x).length) →
    Net ex w g O H R V m cH cR row cap out head → IRow w R m (fun e => (room e : Int)) → IRow w N V (fun x => (next x : Int)) → IRow w L V level →
    Calls Try.prog 40 #[.pointer (some ⟨g, 0, none⟩), .int .i64 u, .int .i64 t, .int .i64 limit, .slice (some ⟨L, 0, none⟩) V cL, .slice (some ⟨N, 0, none⟩) V cN] w fun e w' =>
      e = .returned (.int .i64 ((pushF out head level t d u limit room next).1 : Nat)) ∧ IRow w' R m (fun e => ((pushF out head level t d u limit room next).2.1 e : Int)) ∧ IRow w' N V (fun x => ((pushF out head level t d u limit room next).2.2 x : Int)) ∧
      (∀ x, (pushF out head level t d u limit room next).2.2 x ≤ (out x).length) ∧ Kept (fun b => b = R ∨ b = N) w w' := by
  intro d
  induction d with
  | zero => intro u limit room next w hl; have := hl u; omega
  | succ d ih =>
    intro u limit room next w hl hu hlim hpair hnext NT hR hN hL
    have hV := C.hV
    by_cases hut : u = t
    · have e : pushF out head level t (d + 1) u limit room next = (limit, room, next) := by unfold pushF; rw [if_pos hut]
      rw [e]
      subst hut
      have hR' := hid hR
      have hN' := hid hN
      have hL' := hid hL
      have NT' := hid NT
      have C' := hid C
      have ih' := hid ih
      clear hR hN hL NT C ih
      go_enter Try.func40, Try.ntmps40
      go_wp2
      go_ret
      exact ⟨rfl, hR'.out, hN'.out, hnext, Kept.refl _ _⟩
    · have e : pushF out head level t (d + 1) u limit room next = pushLoop out head level (pushF out head level t d) u limit ((out u).length - next u) room next := by conv => { lhs; unfold pushF }; rw [if_neg hut]
      generalize pushF out head level t (d + 1) u limit room next = res at e ⊢
      have hres := hid e
      clear e
      have hR' := hid hR
      have hN' := hid hN
      have hL' := hid hL
      have NT' := hid NT
      have C' := hid C
      have ih' := hid ih
      have hpair' := hid hpair
      have hnext' := hid hnext
      have hl' := hid hl
      clear hR hN hL NT C ih hpair hnext hl
      have hutb : ((u : Int) == (t : Int)) = false := by simp; omega
      go_enter Try.func40, Try.ntmps40
      go_wp2_with fail
      go_loopg [13] ((out u).length - next u) (fun c _ wr => ∃ room' next' : Nat → Nat, Hid (c + next' u = (out u).length) ∧ Hid (pushLoop out head level (pushF out head level t d) u limit c room' next' = res) ∧ Hid (IRow wr R m (fun e => (room' e : Int))) ∧ Hid (IRow wr N V (fun x => (next' x : Int))) ∧ Hid (∀ e, room' e + room' (mate e) ≤ 1000000000) ∧ Hid (∀ x, next' x ≤ (out x).length) ∧ Hid (Kept (fun b => b = R ∨ b = N) w wr))
      case atStart =>
        have := hnext'.out u
        exact ⟨room, next, hid (by omega), hid hres.out.symm, hid hR'.out, hid hN'.out, hid hpair'.out, hid hnext'.out, hid (Kept.refl _ _)⟩
      case round =>
        obtain ⟨room', next', hc, hp, rR, rN, rp, rn, rk⟩ := hrel
        have NT := NT'.out.kept (rk.out.mono (ex' := ex) (fun b hb => by rcases hb with rfl | rfl; exact C'.out.xR; exact C'.out.xN))
        have hLr := hid (hL'.out.kept (rk.out.mono (ex' := ex) (fun b hb => by rcases hb with rfl | rfl; exact C'.out.xR; exact C'.out.xN)) C'.out.xL)
        have hf0 := NT.f0
        have hf1 := NT.f1
        have hf2 := NT.f2
        have cNc := rN.out.cell hu
        have cO := NT.rows u hu
        have fN := rN.out.frozen u
        have hlen := C'.out.len u
        have hnu := rn.out u
        by_cases hlt : next' u < (out u).length
        · obtain ⟨b, hb, xb, cB⟩ := NT.cells u (next' u) hu hlt
          rw [hb] at cO
          have hee := getD_mem hlt
          generalize hge : (out u).getD (next' u) 0 = e at cB hee
          obtain ⟨hem, het⟩ := C'.out.wf.mem u e hee
          have hvV := C'.out.wf.lt e hem
          have hmm := C'.out.wf.mate e hem
          have hm6 := C'.out.hm
          have cHc := NT.hd.cell hem
          have cRc := rR.out.cell hem
          have cLv := hLr.out.cell hvV
          have cLu := hLr.out.cell hu
          have hlv1 := C'.out.lv (head e)
          have hlv2 := C'.out.lv u
          have hNT := hid NT
          have hxb := hid xb
          have hge' := hid hge
          have het' := hid het
          have hb' := hid hb
          have hrpe := rp.out e
          clear NT xb hge het hb hee
          have hlt' : (next' u : Int) < ((out u).length : Int) := by omega
          go_wp2_with fail
          go_quiet (fail)
          go_wp2_with fail
          go_quiet (fail)
          go_wp2_with fail
          have hgk : Hid (gk = gk - 1 + 1) := hid (by have := hc.out; omega)
          have hp' := hp.out
          rw [hgk.out] at hp'
          have hP := hid hp'
          clear hp'
          have hw1 : IntKind.i64.wrap (level u + 1) = level u + 1 := by rw [IntKind.wrap_i64]; omega
          have hw2 : IntKind.i64.wrap ((next' u : Int) + 1) = (next' u : Int) + 1 := by rw [IntKind.wrap_i64]; omega
          by_cases h0 : room' e = 0
          · have h0' : ((room' e : Int) == 0) = true := by simp [h0]
            have h0h := hid h0
            clear h0
            refine veil_region (by kernel_rfl) (by kernel_rfl) ?_
            iterate 20 (refine veil_step (fun K hK => ?_); go_simp; refine hK _ ?_; clear hK K)
            refine veil_nil ?_
            intro _ hw'
            obtain ⟨nq, hw''⟩ := hw'
            subst hw''
            go_wp2
            go_roundg (gk - 1)
            case measure => have := hgk.out; omega
            case rel =>
              refine ⟨room', upd next' u (next' u + 1), hid ?_, hid ?_, hid ?_, hid ?_, hid rp.out, hid ?_, hid ?_⟩
              · rw [upd_same]; have := hc.out; have := hgk.out; omega
              · rw [← hP.out, loop_skip hge'.out (.inl h0h.out)]
              · exact (rR.out.drewN _).setOther C'.out.rn _
              · rw [upd_cast]; exact (rN.out.drewN _).set u _
              · intro x
                by_cases ex : x = u
                · subst ex; rw [upd_same]; omega
                · rw [upd_ne _ _ ex]; exact rn.out x
              · exact (rk.out.drewN _).setCell (.inr rfl) _
          · have h0' : ((room' e : Int) == 0) = false := by simp; exact h0
            have h0h := hid h0
            clear h0
            by_cases h1 : level (head e) = level u + 1
            · have h1' : (level (head e) != level u + 1) = false := by simp [h1]
              have h1h := hid h1
              clear h1
              have CALL : Hid (∀ (lim n : Nat), lim = min limit (room' e) → Calls Try.prog 40 #[.pointer (some ⟨g, 0, none⟩), .int .i64 (head e : Nat), .int .i64 t, .int .i64 lim, .slice (some ⟨L, 0, none⟩) V cL, .slice (some ⟨N, 0, none⟩) V cN] (wr.drewN n) fun e' w' =>
                  ∃ (f : Nat) (r2 n2 : Nat → Nat), e' = .returned (.int .i64 f) ∧ Hid (pushF out head level t d (head e) (min limit (room' e)) room' next' = (f, r2, n2)) ∧ Hid (IRow w' R m (fun e => (r2 e : Int))) ∧ Hid (IRow w' N V (fun x => (n2 x : Int))) ∧ Hid (∀ x, n2 x ≤ (out x).length) ∧ Hid (Kept (fun b => b = R ∨ b = N) w w')) := by
                refine hid fun lim n hlim' => ?_
                subst hlim'
                have hyp := ih'.out (head e) (min limit (room' e)) room' next' (wr.drewN n) (fun y => by have := hl'.out y; have := h1h.out; omega) hvV (by have := Nat.min_le_left limit (room' e); omega) rp.out rn.out (hNT.out.kept ((Kept.refl ex wr).drewN n)) (rR.out.drewN n) (rN.out.drewN n) (hLr.out.drewN n)
                refine hyp.mono ?_
                rintro e' w' ⟨h1, h2, h3, h4, h5⟩
                exact ⟨_, _, _, h1, hid rfl, hid h2, hid h3, hid h4, hid ((rk.out.drewN n).trans h5)⟩
              have FACTS : Hid (∀ (f : Nat) (r2 n2 : Nat → Nat), pushF out head level t d (head e) (min limit (room' e)) room' next' = (f, r2, n2) → f ≤ room' e ∧ r2 e = room' e ∧ n2 u = next' u ∧ (∀ e, r2 e + r2 (mate e) = room' e + room' (mate e))) := by
                refine hid fun f r2 n2 hf => ?_
                have P := push_ok (t := t) (level := level) C'.out.wf d (head e) (min limit (room' e)) room' next'
                rw [hf] at P
                have hle := P.le
                have h2 := Nat.min_le_right limit (room' e)
                have h3 := h1h.out
                refine ⟨Nat.le_trans hle h2, P.far e (by rw [het'.out]; omega) (Int.le_refl _), P.keep u (by omega) (fun e' => by rw [← e'] at h3; omega), P.pair⟩
              have hgR : g ≠ R := fun e' => hNT.out.xg (e' ▸ C'.out.xR)
              have hgN : g ≠ N := fun e' => hNT.out.xg (e' ▸ C'.out.xN)
              have hRN : R ≠ N := C'.out.rn
              have hx := bits_mate e (by omega)
              have hme := mate_ne e
              have hme2 : e ≠ mate e := fun h => hme h.symm
              obtain ⟨lim, hlm⟩ : ∃ lim, lim = min limit (room' e) := ⟨_, rfl⟩
              have hmin : ∀ (ts : Array TypeId) (ty : TypeId) (W : World), (Builtin.min_ ts ty #[.int .i64 limit, .int .i64 (room' e : Nat)]).run Try.prog W = .ok (.int .i64 (lim : Nat)) W := by
                intro ts ty W
                rw [run_min_int2, hlm]
                congr 2
                split <;> omega
              have hlmh := hid hlm
              clear hlm
              go_quiet (fail)
              go_wp2_with (go_at_call 40; refine (CALL.out lim _ hlmh.out).mono ?_; rintro e' w1 ⟨f, r2, n2, rfl, hf, i1, i2, i3, i4⟩; obtain ⟨j1, j2, j3, j4⟩ := FACTS.out _ _ _ hf.out; have j4' := j4 e; have NT1 := NT'.out.kept (i4.out.mono (ex' := ex) (fun b hb => by rcases hb with rfl | rfl; exact C'.out.xR; exact C'.out.xN)); have gf := NT1.f2; have hNT1 := hid NT1; have cR1 := i1.out.cell hem; have cRm1 := i1.out.cell hmm; have fR1 := i1.out.frozen e; have fRm1 := i1.out.frozen (mate e); have cN1 := i2.out.cell hu; have fN1 := i2.out.frozen u; have J2 := hid j2; have J3 := hid j3; have J4 := hid j4; rw [j2] at cR1 j4'; rw [j3] at cN1; clear NT1 j2 j3 j4; have hs1 : IntKind.i64.wrap ((room' e : Int) - f) = ((room' e - f : Nat) : Int) := by { rw [IntKind.wrap_i64]; omega }; have hs2 : IntKind.i64.wrap ((r2 (mate e) : Int) + f) = ((r2 (mate e) + f : Nat) : Int) := by { rw [IntKind.wrap_i64]; omega })
              · have hpos : 0 < f := by assumption
                go_ret
                rw [← hP.out, loop_hit hge'.out h0h.out h1h.out hf.out hpos]
                refine ⟨rfl, ?_, ?_, i3.out, (i4.out.setCell (.inl rfl) _).setCell (.inl rfl) _⟩
                · show IRow _ R m (fun x => ((upd (upd r2 e (r2 e - f)) (mate e) (r2 (mate e) + f) x : Nat) : Int))
                  rw [upd_cast, upd_cast, J2.out]
                  exact (i1.out.set e _).set (mate e) _
                · exact (i2.out.setOther (fun h => C'.out.rn h.symm) _).setOther (fun h => C'.out.rn h.symm) _
              · have hpos : ¬ 0 < f := by assumption
                go_roundg (gk - 1)
                case measure => have := hgk.out; omega
                case rel =>
                  refine ⟨r2, upd n2 u (n2 u + 1), hid ?_, hid ?_, hid ?_, hid ?_, hid ?_, hid ?_, hid ?_⟩
                  · rw [upd_same, J3.out]; have := hc.out; have := hgk.out; omega
                  · rw [← hP.out, loop_miss hge'.out h0h.out h1h.out hf.out hpos]
                  · exact i1.out.setOther C'.out.rn _
                  · rw [upd_cast, J3.out]; exact i2.out.set u _
                  · intro e'; rw [J4.out e']; exact rp.out e'
                  · intro x
                    by_cases ex : x = u
                    · subst ex; rw [upd_same, J3.out]; omega
                    · rw [upd_ne _ _ ex]; exact i3.out x
                  · exact i4.out.setCell (.inr rfl) _
            · have h1' : (level (head e) != level u + 1) = true := by simp; exact h1
              have h1h := hid h1
              clear h1
              go_quiet (fail)
              go_wp2
              go_roundg (gk - 1)
              case measure => have := hgk.out; omega
              case rel =>
                refine ⟨room', upd next' u (next' u + 1), hid ?_, hid ?_, hid ?_, hid ?_, hid rp.out, hid ?_, hid ?_⟩
                · rw [upd_same]; have := hc.out; have := hgk.out; omega
                · rw [← hP.out, loop_skip hge'.out (.inr h1h.out)]
                · exact (rR.out.drewN _).setOther C'.out.rn _
                · rw [upd_cast]; exact (rN.out.drewN _).set u _
                · intro x
                  by_cases ex : x = u
                  · subst ex; rw [upd_same]; omega
                  · rw [upd_ne _ _ ex]; exact rn.out x
                · exact (rk.out.drewN _).setCell (.inr rfl) _
        · have hlt' : ¬ (next' u : Int) < ((out u).length : Int) := by omega
          have hgk : gk = 0 := by have := hc.out; omega
          have hp0 := hp.out
          rw [hgk] at hp0
          unfold pushLoop at hp0
          have hp1 := hid hp0
          clear hp0 hgk
          go_wp2_with fail
          go_quiet (fail)
          go_wp2
          go_ret
          rw [← hp1.out]
          exact ⟨rfl, rR.out.drewN _, rN.out.drewN _, rn.out, rk.out.drewN _⟩
end Go.Proofs.Qxb6613837a
