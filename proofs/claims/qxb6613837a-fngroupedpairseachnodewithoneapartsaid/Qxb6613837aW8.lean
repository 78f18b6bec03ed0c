import Derived.Test.Qxb6613837aW7
namespace Go.Proofs.Qxb6613837a
open Go.RowKit
set_option linter.unusedVariables false

theorem scan_ge {head room : Nat → Nat} {u : Nat} : ∀ (es : List Nat) (lv : Nat → Int) (q : List Nat), (∀ x, -1 ≤ lv x) → ∀ x, -1 ≤ (scan head room u es lv q).1 x := by
  intro es
  induction es with
  | nil => intro lv q h; exact h
  | cons e es ih =>
    intro lv q h
    unfold scan
    split
    · refine ih _ _ fun x => ?_
      by_cases ex : x = head e
      · subst ex; rw [upd_same]; have := h u; omega
      · rw [upd_ne _ _ ex]; exact h x
    · exact ih _ _ h
theorem bfs_ge {out : Nat → List Nat} {head room : Nat → Nat} : ∀ (d : Nat) (lv : Nat → Int) (q : List Nat), (∀ x, -1 ≤ lv x) → ∀ x, -1 ≤ bfs out head room d lv q x := by
  intro d
  induction d with
  | zero => intro lv q h; exact h
  | succ d ih =>
    intro lv q h
    cases q with
    | nil => exact h
    | cons u q => exact ih _ _ (scan_ge _ _ _ h)
theorem levels_ge (out : Nat → List Nat) (head room : Nat → Nat) (V s x : Nat) : -1 ≤ levelsF out head room V s x := by
  refine bfs_ge _ _ _ (fun y => ?_) x
  by_cases e : y = s
  · subst e; rw [upd_same]; omega
  · rw [upd_ne _ _ e]; omega
theorem inner_stop {out : Nat → List Nat} {head : Nat → Nat} {level : Nat → Int} {t V s k tot : Nat} {room next : Nat → Nat} (hk : 0 < k) (h : (pushF out head level t V s maxI room next).1 = 0) : innerF out head level t V s k room next tot = (tot, room) := by
  cases k with
  | zero => omega
  | succ k => rw [innerF, if_pos h]
theorem inner_go {out : Nat → List Nat} {head : Nat → Nat} {level : Nat → Int} {t V s k tot : Nat} {room next : Nat → Nat} (hk : 0 < k) (h : (pushF out head level t V s maxI room next).1 ≠ 0) :
    innerF out head level t V s k room next tot = innerF out head level t V s (k - 1) (pushF out head level t V s maxI room next).2.1 (pushF out head level t V s maxI room next).2.2 (tot + (pushF out head level t V s maxI room next).1) := by
  cases k with
  | zero => omega
  | succ k => rw [innerF, if_neg h]; rfl

set_option maxRecDepth 100000 in
set_option maxHeartbeats 1000000 in
theorem maxFlow_any {V m g O H R cH cR s t : Nat} {row : Nat → Option Addr} {cap : Nat → Nat} {out : Nat → List Nat} {head room : Nat → Nat} (C : FCtx V m out head room s t) (w : World)
    (NT : Net (fun b => b = R) w g O H R V m cH cR row cap out head) (hR : IRow w R m (fun e => (room e : Int))) :
    Calls Try.prog 37 #[.pointer (some ⟨g, 0, none⟩), .int .i64 s, .int .i64 t] w fun e w' =>
      e = .returned (.int .i64 ((outerF out head m t V s (Dsum head m room s + 1) room 0).1 : Nat)) ∧ IRow w' R m (fun e => ((outerF out head m t V s (Dsum head m room s + 1) room 0).2 e : Int)) ∧ Kept (fun b => b = R) w w' := by
  have hV := C.hV
  have hs := C.hs
  have ht := C.ht
  have hD := C.dsum
  generalize hres : outerF out head m t V s (Dsum head m room s + 1) room 0 = res
  have hres' := hid hres
  have C' := hid C
  have hRs := hR.lt
  have NT' := hid (NT.widen (by omega))
  have hR' := hid hR
  have hf0 := NT.f0
  have hgs : g < w.heap.size := World.block_lt_of_cell? w _ hf0
  have hmk := make22 V hV
  have hf0a : ∀ o, (w.alloc o).cell? ⟨g, 0, none⟩ = some (.slice (some ⟨O, 0, none⟩) V V) := fun o => kept_cell hf0 ((Kept.refl (fun b => b = R) w).alloc o) NT.xg
  have sub : Hid (∀ b, b = R → (b = R ∨ w.heap.size ≤ b)) := hid (fun b hb => .inl hb)
  clear hres C NT hR
  go_enter Try.func37, Try.ntmps37
  go_wp2_with fail
  go_loopg [7] (Dsum head m room s + 1) (fun k v wr => ∃ (tot : Nat) (room' : Nat → Nat) (lv nx : Nat → Int), v = .int .i64 tot ∧ Hid (outerF out head m t V s k room' tot = res) ∧ Hid (Dsum head m room' s < k) ∧ Hid (FInv head m t s room room' tot) ∧ Hid (IRow wr R m (fun e => (room' e : Int))) ∧ Hid (IRow wr w.heap.size V lv) ∧ Hid (IRow wr (w.heap.size + 1) V nx) ∧ Hid (Kept (fun b => b = R) w wr))
  case atStart =>
    refine ⟨0, room, fun _ => 0, fun _ => 0, rfl, hid hres'.out, hid (Nat.lt_succ_self _), hid ⟨fun _ => rfl, fun x => by split <;> split <;> rfl⟩, hid ((hR'.out.alloc _).alloc _), hid ((IRow.made w V _ rfl).alloc _), hid (IRow.made _ V _ (by simp)), hid (((Kept.refl _ _).alloc _).alloc _)⟩
  case round =>
    obtain ⟨tot, room', lv, nx, rfl, ho, hd, hF, rR, rL, rN, rk⟩ := hrel
    obtain ⟨gk0, hgk0⟩ : ∃ x, x = gk := ⟨_, rfl⟩
    subst hgk0
    obtain ⟨wr1, hwr1⟩ : ∃ x, x = wr := ⟨_, rfl⟩
    subst hwr1
    have hroom' : ∀ e, room' e ≤ 1000000000 := fun e => by have := hF.out.pair e; have := C'.out.pair e; omega
    have LC : LCtx V m out head (fun b => b = R ∨ w.heap.size ≤ b) w.heap.size R := ⟨C'.out.wf, C'.out.hm, C'.out.hV, C'.out.len, .inr (Nat.le_refl _), by omega⟩
    have LEV := hid (levels_any (cL := V) LC hs ht wr1 hroom' (NT'.out.kept (rk.out.mono sub.out)) rR.out rL.out)
    have hbi := hid (levels_bi (room := room') C'.out.wf hs)
    have hge := hid (levels_ge out head room' V s)
    generalize hLV : levelsF out head room' V s = LV at LEV hbi hge
    have hLV' := hid hLV
    clear hLV hroom' LC
    have hgk : Hid (gk0 = gk0 - 1 + 1) := hid (by have := hd.out; omega)
    have hV0 : 0 < V := by omega
    by_cases hreach : 0 ≤ LV t
    · have hin := inner_some C'.out.wf hs (Dsum head m room' s) hF.out (by rw [hLV'.out]; exact hreach)
      have hinF := (inner_ok (level := LV) C'.out.wf (Dsum head m room' s + 1) room' (fun _ => 0) tot hF.out).1
      have ho2 : outerF out head m t V s (gk0 - 1) (innerF out head LV t V s (Dsum head m room' s + 1) room' (fun _ => 0) tot).2 (innerF out head LV t V s (Dsum head m room' s + 1) room' (fun _ => 0) tot).1 = res := by
        have h := ho.out
        rw [hgk.out, outerF, hLV'.out, if_pos hreach] at h
        exact h
      rw [hLV'.out] at hin
      generalize hri : innerF out head LV t V s (Dsum head m room' s + 1) room' (fun _ => 0) tot = ri at hin hinF ho2
      have hri' := hid hri
      have hinh := hid hin
      have hinFh := hid hinF
      have ho2h := hid ho2
      clear hri hin hinF ho2
      go_wp2_with (go_at_call 39; refine LEV.out.mono ?_; rintro e w1 ⟨rfl, hL1, hk1⟩; have hL1h := hid hL1; have hk1h := hid hk1; have hN1 := rN.out.kept hk1 (by omega); have hN1h := hid hN1; have hR1 := hid (rR.out.kept hk1 (by omega)); have hcl := fun ty => clear22 w1 (w.heap.size + 1) V nx ty hV0 hN1 V; have hK1 := hid (rk.out.join hk1 (by intro b hb h; omega)); clear hL1 hk1 hN1)
      go_loopg [7] (Dsum head m room' s + 1) (fun k v wr => ∃ (tot2 : Nat) (room2 next2 : Nat → Nat), v = .int .i64 tot2 ∧ Hid (innerF out head LV t V s k room2 next2 tot2 = ri) ∧ Hid (Dsum head m room2 s < k) ∧ Hid (FInv head m t s room room2 tot2) ∧ Hid (∀ x, next2 x ≤ (out x).length) ∧ Hid (IRow wr R m (fun e => (room2 e : Int))) ∧ Hid (IRow wr w.heap.size V LV) ∧ Hid (IRow wr (w.heap.size + 1) V (fun x => (next2 x : Int))) ∧ Hid (Kept (fun b => b = R) w wr))
      case atStart =>
        have kc : Kept (fun b => b = w.heap.size + 1) w1 (w1.setCells (w.heap.size + 1) 0 (List.replicate V (.int .i64 0))) := kept_setCells (b := w.heap.size + 1) (by rfl) _ _ _ (Kept.refl _ _)
        refine ⟨tot, room', fun _ => 0, rfl, hid hri'.out, hid (Nat.lt_succ_self _), hid hF.out, hid (fun x => Nat.zero_le _), hid (hR1.out.kept kc (by omega)), hid (hL1h.out.kept kc (by omega)), hid ?_, hid (hK1.out.join kc (by intro b hb h; omega))⟩
        exact (IRow.zeroes V 0 _ _ hN1h.out).congr (fun i hi => by rw [if_pos (by omega)]; rfl)
      case round =>
        obtain ⟨tot2, room2, next2, rfl, hin2, hd2, hF2, hnx2, iR, iL, iN, iK⟩ := hrel
        have hpair2 : ∀ e, room2 e + room2 (mate e) ≤ 1000000000 := fun e => by have := hF2.out.pair e; have := C'.out.pair e; omega
        have PC : Ctx V m out head LV (fun b => b = R ∨ b = w.heap.size + 1) w.heap.size (w.heap.size + 1) R := ⟨C'.out.wf, C'.out.hm, C'.out.hV, C'.out.len, fun x => ⟨hge.out x, by have := hbi.out.bound x; have := Rch_le V LV; omega⟩, .inl rfl, .inr rfl, by omega, by omega⟩
        have NT2 := (NT'.out.kept (iK.out.mono sub.out)).mono (ex' := fun b => b = R ∨ b = w.heap.size + 1) (fun b hb => by omega)
        have PUSH := hid (push_any (cL := V) (cN := V) PC ht V s maxI room2 next2 wr (fun y => by have := hbi.out.bound y; have := Rch_le V LV; have := hbi.out.root; omega) hs (Nat.le_refl _) hpair2 hnx2.out NT2 iR.out iN.out iL.out)
        have POK := push_ok (t := t) (level := LV) C'.out.wf V s maxI room2 next2
        have FP := hF2.out.push (level := LV) (next := next2) C'.out.wf V maxI
        have hst := hid (fun hk h => inner_stop (out := out) (head := head) (level := LV) (t := t) (V := V) (s := s) (k := gk) (tot := tot2) (room := room2) (next := next2) hk h)
        have hgo := hid (fun hk h => inner_go (out := out) (head := head) (level := LV) (t := t) (V := V) (s := s) (k := gk) (tot := tot2) (room := room2) (next := next2) hk h)
        generalize pushF out head LV t V s maxI room2 next2 = pr at PUSH POK FP hst hgo
        obtain ⟨f, r2, n2⟩ := pr
        have POKh := hid POK
        have FPh := hid FP
        have e1 := FP.cons s
        rw [if_pos rfl, if_neg C'.out.st] at e1
        have htot : tot2 + f ≤ 1000000000000000 := by simp only at e1; omega
        have e2 := hF2.out.cons s
        rw [if_pos rfl, if_neg C'.out.st] at e2
        have e1h := hid e1
        have e2h := hid e2
        have hw1 : IntKind.i64.wrap ((tot2 : Int) + f) = ((tot2 + f : Nat) : Int) := by rw [IntKind.wrap_i64]; omega
        clear hpair2 PC NT2 POK FP e1 e2
        go_wp2_with (go_at_call 40; refine PUSH.out.mono ?_; rintro e' w2 ⟨rfl, i1, i2, i3, i4⟩; have i1h := hid i1; have i2h := hid i2; have i3h := hid i3; have i4h := hid i4; clear i1 i2 i3 i4)
        · have hf : f = 0 := by
            have h : ((f : Int) == 0) = true := by assumption
            simpa using h
          subst hf
          have hro : r2 = room2 := POKh.out.none rfl
          have hri2 : ri = (tot2, room2) := by rw [← hin2.out]; exact hst.out (by have := hd2.out; omega) rfl
          go_roundg (gk0 - 1)
          case measure => have := hgk.out; omega
          case rel =>
            refine ⟨tot2, room2, LV, _, rfl, hid ?_, hid ?_, hid hF2.out, hid (hro ▸ i1h.out), hid (iL.out.kept i4h.out (by omega)), hid i2h.out, hid (iK.out.join i4h.out (by intro b hb h; omega))⟩
            · have := ho2h.out; rw [hri2] at this; exact this
            · have h1 := hinh.out
              rw [hri2] at h1
              have h2 := hF.out.cons s
              rw [if_pos rfl, if_neg C'.out.st] at h2
              have h3 := e2h.out
              have h4 := hd.out
              simp only at h1
              omega
        · have hf : f ≠ 0 := by
            have h : ((f : Int) == 0) = false := by assumption
            intro e; subst e; simp at h
          go_roundg (gk - 1)
          case measure => have := hd2.out; omega
          case rel =>
            refine ⟨tot2 + f, r2, n2, by rw [Int.natCast_add], hid ?_, hid ?_, hid FPh.out, hid i3h.out, hid i1h.out, hid (iL.out.kept i4h.out (by omega)), hid i2h.out, hid (iK.out.join i4h.out (by intro b hb h; omega))⟩
            · rw [← hin2.out]; exact (hgo.out (by have := hd2.out; omega) hf).symm
            · have h1 := e1h.out; have h2 := e2h.out; have h3 := hd2.out; omega
    · have ho2 : res = (tot, room') := by
        have h := ho.out
        rw [hgk.out, outerF, hLV'.out, if_neg hreach] at h
        exact h.symm
      subst ho2
      go_wp2_with (go_at_call 39; refine LEV.out.mono ?_; rintro e w1 ⟨rfl, hL1, hk1⟩; have hk1h := hid hk1; clear hk1)
      go_ret
      exact ⟨rfl, rR.out.kept hk1h.out (by omega), rk.out.join hk1h.out (by intro b hb h; omega)⟩
end Go.Proofs.Qxb6613837a
