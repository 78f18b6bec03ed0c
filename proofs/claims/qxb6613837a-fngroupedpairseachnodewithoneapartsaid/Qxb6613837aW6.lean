import Derived.Test.Qxb6613837aW5
namespace Go.Proofs.Qxb6613837a
open Go.RowKit
set_option linter.unusedVariables false

theorem Net.mono {ex ex' : Nat → Prop} {w : World} {g O H R V m cH cR : Nat} {row : Nat → Option Addr} {cap : Nat → Nat} {out : Nat → List Nat} {head : Nat → Nat} (h : Net ex w g O H R V m cH cR row cap out head) (hx : ∀ b, ex' b → ex b) : Net ex' w g O H R V m cH cR row cap out head := by
  refine ⟨h.f0, h.f1, h.f2, h.rows, fun u i hu hi => ?_, h.hd, fun h' => h.xg (hx _ h'), fun h' => h.xO (hx _ h'), fun h' => h.xH (hx _ h')⟩
  obtain ⟨b, h1, h2, h3⟩ := h.cells u i hu hi
  exact ⟨b, h1, fun h' => h2 (hx _ h'), h3⟩
theorem Que.tail {w : World} {base b off cap u : Nat} {q : List Nat} (h : Que w base (.slice (some ⟨b, off, none⟩) (u :: q).length cap) (u :: q)) : Que w base (.slice (some ⟨b, off + 1, none⟩) q.length (cap - 1)) q := by
  obtain ⟨b', off', cap', cs, t, h1, h2, h3, h4, h5, h6, h7⟩ := h
  simp only [Value.slice.injEq, Option.some.injEq, Addr.mk.injEq] at h1
  obtain ⟨⟨rfl, rfl, _⟩, _, rfl⟩ := h1
  rw [List.length_cons] at h4
  refine ⟨b, off + 1, cap - 1, cs, t, rfl, h2, h3, by omega, by omega, by omega, fun j hj => ?_⟩
  have := h7 (j + 1) (by rw [List.length_cons]; omega)
  rw [show off + 1 + j = off + (j + 1) by omega, this]
  rfl
theorem Que.tail0 {w : World} {base b off u : Nat} {q : List Nat} (h : Que w base (.slice (some ⟨b, off, none⟩) (u :: q).length 1) (u :: q)) : Que w base (.slice (some ⟨b, off, none⟩) q.length 0) q ∧ q.length = 0 := by
  obtain ⟨b', off', cap', cs, t, h1, h2, h3, h4, h5, h6, h7⟩ := h
  simp only [Value.slice.injEq, Option.some.injEq, Addr.mk.injEq] at h1
  obtain ⟨⟨rfl, rfl, _⟩, _, rfl⟩ := h1
  rw [List.length_cons] at h4
  exact ⟨⟨b, off, 0, cs, t, rfl, h2, h3, by omega, by omega, by omega, fun j hj => by omega⟩, by omega⟩
theorem Que.head {w : World} {base b off n cap u : Nat} {q : List Nat} (h : Que w base (.slice (some ⟨b, off, none⟩) n cap) (u :: q)) : w.cell? ⟨b, off, none⟩ = some (.int .i64 (u : Nat)) := by
  obtain ⟨b', off', cap', cs, t, h1, h2, h3, h4, h5, h6, h7⟩ := h
  simp only [Value.slice.injEq, Option.some.injEq, Addr.mk.injEq] at h1
  obtain ⟨⟨rfl, rfl, _⟩, _, rfl⟩ := h1
  have := h7 0 (by rw [List.length_cons]; omega)
  simp only [World.cell?, h3]
  simpa using this

theorem Kept.alloc {ex : Nat → Prop} {w w' : World} (h : Kept ex w w') (o : Obj) : Kept ex w (w'.alloc o) :=
  h.trans ⟨rfl, rfl, rfl, by simp, fun b hb _ => Below.heap_alloc w' o b hb⟩
theorem IRow.alloc {w : World} {b n : Nat} {f : Nat → Int} (h : IRow w b n f) (o : Obj) : IRow (w.alloc o) b n f := h.of_block (Below.heap_alloc w o b h.lt)
theorem Que.alloc {w : World} {base : Nat} {v : Value} {q : List Nat} (h : Que w base v q) (o : Obj) : Que (w.alloc o) base v q := h.of_block fun b _ hb => Below.heap_alloc w o b hb
theorem Que.setCell {w : World} {base : Nat} {v : Value} {q : List Nat} (h : Que w base v q) {a : Addr} (ha : a.block < base) (x : Value) : Que (w.setCell a x) base v q := h.of_block fun b hb _ => Below.heap_setCell _ _ _ _ (fun e => by omega)
theorem Que.fresh (w : World) (base n s : Nat) (hn : n = w.heap.size) (hb : base ≤ w.heap.size) : Que (w.alloc (.cells #[.int .i64 (s : Nat)] 3)) base (.slice (some ⟨n, 0, none⟩) 1 1) [s] := by
  subst hn
  refine ⟨_, 0, 1, _, 3, rfl, hb, heap_alloc_new w _, Nat.le_refl _, by decide, by simp, fun j hj => ?_⟩
  simp at hj
  subst hj
  rfl

theorem cell_fresh (w : World) (n : Nat) (v : Value) (hn : n = w.heap.size) : (w.alloc (.cells #[v] 3)).cell? ((⟨n, 0, none⟩ : Addr).add 0) = some v := by
  subst hn
  rw [Addr.add_lit]
  simp only [World.cell?, heap_alloc_new]
  rfl

/-- What levels stands on. -/
structure LCtx (V m : Nat) (out : Nat → List Nat) (head : Nat → Nat) (ex : Nat → Prop) (L R : Nat) : Prop where
  wf : Wf V m out head
  hm : m ≤ 1000000
  hV : V ≤ 1000000
  len : ∀ u, (out u).length ≤ 1000000
  xL : ex L
  rl : R ≠ L

set_option maxRecDepth 100000 in
set_option maxHeartbeats 1000000 in
theorem levels_any {V m g O H R L cH cR cL s t : Nat} {row : Nat → Option Addr} {cap : Nat → Nat} {out : Nat → List Nat} {head room : Nat → Nat} {lv0 : Nat → Int} {ex : Nat → Prop} (C : LCtx V m out head ex L R) (hs : s < V) (ht : t < V) (w : World)
    (hroom : ∀ e, room e ≤ 1000000000) (NT : Net ex w g O H R V m cH cR row cap out head) (hR : IRow w R m (fun e => (room e : Int))) (hL : IRow w L V lv0) :
    Calls Try.prog 39 #[.pointer (some ⟨g, 0, none⟩), .int .i64 s, .int .i64 t, .slice (some ⟨L, 0, none⟩) V cL] w fun e w' =>
      e = .returned (.bool (decide (0 ≤ levelsF out head room V s t))) ∧ IRow w' L V (levelsF out head room V s) ∧ Kept (fun b => b = L) w w' := by
  have hV := C.hV
  have hm := C.hm
  have C' := hid C
  have NT' := hid NT
  have hR' := hid hR
  have hL' := hid hL
  have hroom' := hid hroom
  have sub : Hid (∀ b, b = L → ex b) := hid (fun b hb => hb ▸ C.xL)
  have hres : Hid (∃ lv, lv = levelsF out head room V s) := hid ⟨_, rfl⟩
  generalize hgl : levelsF out head room V s = LV
  have hLV := hid hgl
  clear C NT hR hL hroom hres hgl
  go_enter Try.func39, Try.ntmps39
  go_wp2_with fail
  go_loopg [17] V (fun k v wr => ∃ n : Nat, v = .int .i64 n ∧ Hid (k + n = V) ∧ Hid (IRow wr L V (fun x => if x < n then -1 else lv0 x)) ∧ Hid (Kept (fun b => b = L) w wr))
  case atStart => exact ⟨0, rfl, hid (by omega), hid (hL'.out.congr (fun i _ => by simp)), hid (Kept.refl _ _)⟩
  case round =>
    obtain ⟨n, rfl, hn, r1, r2⟩ := hrel
    have fL := r1.out.frozen n
    by_cases hlt : n < V
    · have cL := r1.out.cell hlt
      have hlt' : (n : Int) < (V : Int) := by omega
      have hw1 : IntKind.i64.wrap ((n : Int) + 1) = ((n + 1 : Nat) : Int) := by rw [IntKind.wrap_i64]; omega
      go_wp2
      go_roundg (gk - 1)
      case measure => have := hn.out; omega
      case rel =>
        refine ⟨n + 1, rfl, hid ?_, hid ?_, hid ?_⟩
        · have := hn.out; omega
        · refine (r1.out.set n (-1)).congr fun i hi => ?_
          by_cases e : i = n
          · subst e; rw [upd_same, if_pos (by omega)]
          · rw [upd_ne _ _ e]
            by_cases h2 : i < n
            · rw [if_pos h2, if_pos (by omega)]
            · rw [if_neg h2, if_neg (by omega)]
        · exact r2.out.setCell rfl _
    · have hlt' : ¬ (n : Int) < (V : Int) := by omega
      have r3 := hid (r1.out.congr (f' := fun _ => -1) (fun i hi => by rw [if_pos (by omega)]))
      have fS := r1.out.frozen s
      have cS := r3.out.cell hs
      clear fL
      go_wp2_with fail
      have r4 : Hid (IRow (wr.setCell ⟨L, s, none⟩ (.int .i64 0)) L V (upd (fun _ => -1) s 0)) := hid (r3.out.set s 0)
      go_loopg [10] V (fun k v wr => ∃ (lv : Nat → Int) (q : List Nat), Hid (Que wr w.heap.size v q) ∧ Hid (BI V m head room s (fun _ => False) lv q) ∧ Hid (q.length + (V - Rch V lv) ≤ k ∧ k ≤ V) ∧ Hid (bfs out head room k lv q = LV) ∧ Hid (IRow wr L V lv) ∧ Hid (Kept (fun b => b = L) w wr))
      case atStart =>
        have hst := start_bi (V := V) (m := m) (s := s) (head := head) (room := room) hs
        exact ⟨upd (fun _ => -1) s 0, [s], hid (Que.fresh _ _ _ _ (by simp) (by simpa using r2.out.size)), hid hst.1, hid ⟨hst.2, Nat.le_refl _⟩, hid hLV.out, hid (r4.out.alloc _), hid ((r2.out.setCell rfl _).alloc _)⟩
      case round =>
        obtain ⟨lv, q, hq, hbi, hle, hbfs, rL, rk⟩ := hrel
        obtain ⟨gk0, hgk0⟩ : ∃ x, x = gk := ⟨_, rfl⟩
        subst hgk0
        obtain ⟨wr1, hwr1⟩ : ∃ x, x = wr := ⟨_, rfl⟩
        subst hwr1
        cases q with
        | nil =>
          obtain ⟨b, off, cp, cs, ty, rfl, hrest⟩ := hq.out
          have hrest' := hid hrest
          clear hrest
          have cT := rL.out.cell ht
          have hlv : lv = LV := by
            have := hbfs.out
            cases gk0 <;> exact this
          subst hlv
          simp only [List.length_nil]
          go_wp2
          go_ret
          exact ⟨rfl, rL.out, rk.out⟩
        | cons u q =>
          obtain ⟨b, off, cp, cs, ty, rfl, hrest⟩ := hq.out
          have hrest' := hid hrest
          clear hrest
          have hu0 := hbi.out.qr u (List.mem_cons_self ..)
          have huV := hbi.out.lt u hu0
          have hub := hbi.out.bound u
          have hRch := Rch_le V lv
          have NT := NT'.out.kept (rk.out.mono (ex' := ex) sub.out)
          have cQ := hq.out.head
          have hf0 := NT.f0
          have cO := NT.rows u huV
          have hgk : Hid (gk0 = gk0 - 1 + 1) := hid (by have := hle.out.1; rw [List.length_cons] at this; omega)
          have hbf : Hid (bfs out head room (gk0 - 1) (scan head room u (out u) lv q).1 (scan head room u (out u) lv q).2 = LV) := hid (by have := hbfs.out; rw [hgk.out] at this; exact this)
          have hst := step_bi (out := out) (d := gk0 - 1) C'.out.wf hbi.out (by rw [← hgk.out]; exact hle.out.1)
          have hst' := hid hst
          have hlen := C'.out.len u
          have hqV : q.length ≤ V := by have h1 := hle.out.1; have h2 := hle.out.2; rw [List.length_cons] at h1; omega
          have NTh := hid NT
          have hlc : (u :: q).length = q.length + 1 := rfl
          clear NT hst
          by_cases hl0 : (out u).length = 0
          · rw [hlc]
            clear hlc
            have hl0' := hid hl0
            have hl1 : ¬ 0 < (out u).length := by omega
            clear hl0
            go_wp2_with fail
            go_loopg [45, 10] (out u).length (fun k v v2 wr => ∃ (n : Nat) (lv' : Nat → Int) (q2 : List Nat), v = .int .i64 n ∧ Hid (k + n = (out u).length) ∧ Hid (scan head room u ((out u).drop n) lv' q2 = scan head room u (out u) lv q) ∧ Hid (Que wr w.heap.size v2 (u :: q2)) ∧ Hid (lv' u = lv u) ∧ Hid (q2.length ≤ q.length + n) ∧ Hid (IRow wr L V lv') ∧ Hid (Kept (fun b => b = L) w wr))
            case atStart => exact ⟨0, lv, q, rfl, hid (by omega), hid rfl, hid hq.out, hid rfl, hid (by omega), hid rL.out, hid rk.out⟩
            case round =>
              obtain ⟨n, lv', q2, rfl, hn, hsc, hq2, hlu, hql, rL2, rk2⟩ := hrel
              obtain ⟨b2, off2, cp2, cs2, ty2, rfl, hrest2⟩ := hq2.out
              have hrest2' := hid hrest2.2.2.1
              clear hrest2
              have hlt : ¬ n < (out u).length := by omega
              have hlt' : ¬ (n : Int) < ((out u).length : Int) := by omega
              have hdrop : (out u).drop n = [] := List.drop_eq_nil_of_le (by omega)
              have hs2 : scan head room u (out u) lv q = (lv', q2) := by rw [← hsc.out, hdrop]; rfl
              have hs2' := hid hs2
              have hlc2 : (u :: q2).length = q2.length + 1 := rfl
              have hcp : q2.length + 1 ≤ cp2 := hrest2'.out
              by_cases hcp1 : cp2 = 1
              · subst hcp1
                have hqt := hid hq2.out.tail0.1
                have hq20 := hq2.out.tail0.2
                have hq2h := hid hq2
                rw [hlc2, hq20]
                rw [hq20] at hqt
                have hq20' := hid hq20
                clear hdrop hs2 hlc2 hcp hq20
                go_wp2
                go_roundg (gk0 - 1)
                case measure => have := hgk.out; omega
                case rel =>
                  refine ⟨lv', q2, hid hqt.out, hid ?_, hid ?_, hid ?_, hid rL2.out, hid rk2.out⟩
                  · have := hst'.out.1; rw [hs2'.out] at this; exact this
                  · have := hst'.out.2; rw [hs2'.out] at this; exact ⟨this, by have := hle.out; omega⟩
                  · have := hbf.out; rw [hs2'.out] at this; exact this
              · have hqt := hid hq2.out.tail
                have hcp2 : ¬ cp2 - 1 = 0 := by omega
                rw [hlc2]
                clear hdrop hs2 hlc2
                go_wp2
                go_roundg (gk0 - 1)
                case measure => have := hgk.out; omega
                case rel =>
                  refine ⟨lv', q2, hid hqt.out, hid ?_, hid ?_, hid ?_, hid rL2.out, hid rk2.out⟩
                  · have := hst'.out.1; rw [hs2'.out] at this; exact this
                  · have := hst'.out.2; rw [hs2'.out] at this; exact ⟨this, by have := hle.out; omega⟩
                  · have := hbf.out; rw [hs2'.out] at this; exact this
          · rw [hlc]
            clear hlc
            obtain ⟨b0, hb0, hx0, _⟩ := NTh.out.cells u 0 huV (by omega)
            rw [hb0] at cO
            have hb0' := hid hb0
            clear hb0
            go_wp2_with fail
            go_loopg [45, 10] (out u).length (fun k v v2 wr => ∃ (n : Nat) (lv' : Nat → Int) (q2 : List Nat), v = .int .i64 n ∧ Hid (k + n = (out u).length) ∧ Hid (scan head room u ((out u).drop n) lv' q2 = scan head room u (out u) lv q) ∧ Hid (Que wr w.heap.size v2 (u :: q2)) ∧ Hid (lv' u = lv u) ∧ Hid (q2.length ≤ q.length + n) ∧ Hid (IRow wr L V lv') ∧ Hid (Kept (fun b => b = L) w wr))
            case atStart => exact ⟨0, lv, q, rfl, hid (by omega), hid rfl, hid hq.out, hid rfl, hid (by omega), hid rL.out, hid rk.out⟩
            case round =>
              obtain ⟨n, lv', q2, rfl, hn, hsc, hq2, hlu, hql, rL2, rk2⟩ := hrel
              obtain ⟨b2, off2, cp2, cs2, ty2, rfl, hrest2⟩ := hq2.out
              have hrest2' := hid hrest2.2.2.1
              clear hrest2
              by_cases hlt : n < (out u).length
              · have hlt' : (n : Int) < ((out u).length : Int) := by omega
                obtain ⟨e, he⟩ : ∃ e, e = (out u).getD n 0 := ⟨_, rfl⟩
                have hee := getD_mem hlt
                rw [← he] at hee
                obtain ⟨hem, het⟩ := C'.out.wf.mem u e hee
                have hvV := C'.out.wf.lt e hem
                have NT := NT'.out.kept (rk2.out.mono (ex' := ex) sub.out)
                have hf1 := NT.f1
                have hf2 := NT.f2
                obtain ⟨b0', hb1, _, cB⟩ := NT.cells u n huV hlt
                rw [hb0'.out] at hb1
                simp only [Option.some.injEq, Addr.mk.injEq, and_true] at hb1
                subst hb1
                rw [← he] at cB
                have cH := NT.hd.cell hem
                have cR := ((hR'.out).kept rk2.out C'.out.rl).cell hem
                have cLv := rL2.out.cell hvV
                have cLu := rL2.out.cell huV
                have fLv := rL2.out.frozen (head e)
                rw [hlu.out] at cLu
                have hw1 : IntKind.i64.wrap ((n : Int) + 1) = ((n + 1 : Nat) : Int) := by rw [IntKind.wrap_i64]; omega
                have hw2 : IntKind.i64.wrap (lv u + 1) = lv u + 1 := by rw [IntKind.wrap_i64]; omega
                have hdr : Hid ((out u).drop n = e :: (out u).drop (n + 1)) := hid (by rw [List.drop_eq_getElem_cons hlt, he, List.getD_eq_getElem?_getD, List.getElem?_eq_getElem hlt]; rfl)
                have heh := hid he
                have heth := hid het
                clear NT he hee het
                by_cases hc : 0 < room e ∧ lv' (head e) < 0
                · obtain ⟨hc1, hc2⟩ := hc
                  have hne : u ≠ head e := fun h => by rw [← h, hlu.out] at hc2; omega
                  have hgL : g ≠ L := fun h => NTh.out.xg (h ▸ C'.out.xL)
                  have hLw : L < w.heap.size := hL'.out.lt
                  have hq3 := hid (hq2.out.setCell (a := ⟨L, head e, none⟩) hLw (.int .i64 (lv u + 1)))
                  go_wp2_with (first | (at_builtin; refine wpList_append_que _ rfl (.tmp 79) (.tmp 81) rfl rfl w.heap.size _ (u :: q2) rfl (hq3.out.alloc _) ?h1 ⟨wr.heap.size, 0, none⟩ 1 (head e) rfl ?h2 ?h3 ?_))
                  case h1 => have := rk2.out.size; simp; omega
                  case h2 => exact cell_fresh _ _ _ (by simp)
                  case h3 => rw [List.length_cons]; have := hql.out; omega
                  intro v' w1 hq4 hab
                  have hq4' := hid hq4
                  have hab' := hid hab
                  clear hq4 hab
                  go_wp2
                  go_roundg (gk - 1)
                  case measure => have := hn.out; omega
                  case rel =>
                    have hLs : L < wr.heap.size := rL2.out.lt
                    refine ⟨n + 1, upd lv' (head e) (lv' u + 1), q2 ++ [head e], rfl, hid ?_, hid ?_, hid ?_, hid ?_, hid ?_, hid ?_, hid ?_⟩
                    · have := hn.out; omega
                    · rw [← hsc.out, hdr.out]
                      conv => rhs; rw [scan, if_pos ⟨hc1, hc2⟩]
                    · exact hq4'.out
                    · rw [upd_ne _ _ hne, hlu.out]
                    · have := hql.out; rw [List.length_append, List.length_singleton]; omega
                    · rw [hlu.out]
                      exact ((rL2.out.set (head e) (lv u + 1)).alloc _).of_block (hab'.out.2.2.2.2 L hLw (by simp; omega))
                    · exact ((rk2.out.setCell rfl _).alloc _).above hab'.out
                · have hch := hid hc
                  by_cases hc1 : 0 < room e
                  · have hc2 : ¬ lv' (head e) < 0 := fun h => hc ⟨hc1, h⟩
                    clear hc
                    go_wp2
                    go_roundg (gk - 1)
                    case measure => have := hn.out; omega
                    case rel =>
                      refine ⟨n + 1, lv', q2, rfl, hid ?_, hid ?_, hid hq2.out, hid hlu.out, hid ?_, hid rL2.out, hid rk2.out⟩
                      · have := hn.out; omega
                      · rw [← hsc.out, hdr.out, scan, if_neg hch.out]
                      · have := hql.out; omega
                  · clear hc
                    go_wp2
                    go_roundg (gk - 1)
                    case measure => have := hn.out; omega
                    case rel =>
                      refine ⟨n + 1, lv', q2, rfl, hid ?_, hid ?_, hid hq2.out, hid hlu.out, hid ?_, hid rL2.out, hid rk2.out⟩
                      · have := hn.out; omega
                      · rw [← hsc.out, hdr.out, scan, if_neg hch.out]
                      · have := hql.out; omega
              · have hlt' : ¬ (n : Int) < ((out u).length : Int) := by omega
                have hdrop : (out u).drop n = [] := List.drop_eq_nil_of_le (by omega)
                have hs2 : scan head room u (out u) lv q = (lv', q2) := by rw [← hsc.out, hdrop]; rfl
                have hs2' := hid hs2
                have hlc2 : (u :: q2).length = q2.length + 1 := rfl
                have hcp : q2.length + 1 ≤ cp2 := hrest2'.out
                by_cases hcp1 : cp2 = 1
                · subst hcp1
                  have hqt := hid hq2.out.tail0.1
                  have hq20 := hq2.out.tail0.2
                  have hq2h := hid hq2
                  rw [hlc2, hq20]
                  rw [hq20] at hqt
                  have hq20' := hid hq20
                  clear hdrop hs2 hlc2 hcp hq20
                  go_wp2
                  go_roundg (gk0 - 1)
                  case measure => have := hgk.out; omega
                  case rel =>
                    refine ⟨lv', q2, hid hqt.out, hid ?_, hid ?_, hid ?_, hid rL2.out, hid rk2.out⟩
                    · have := hst'.out.1; rw [hs2'.out] at this; exact this
                    · have := hst'.out.2; rw [hs2'.out] at this; exact ⟨this, by have := hle.out; omega⟩
                    · have := hbf.out; rw [hs2'.out] at this; exact this
                · have hqt := hid hq2.out.tail
                  have hcp2 : ¬ cp2 - 1 = 0 := by omega
                  rw [hlc2]
                  clear hdrop hs2 hlc2
                  go_wp2
                  go_roundg (gk0 - 1)
                  case measure => have := hgk.out; omega
                  case rel =>
                    refine ⟨lv', q2, hid hqt.out, hid ?_, hid ?_, hid ?_, hid rL2.out, hid rk2.out⟩
                    · have := hst'.out.1; rw [hs2'.out] at this; exact this
                    · have := hst'.out.2; rw [hs2'.out] at this; exact ⟨this, by have := hle.out; omega⟩
                    · have := hbf.out; rw [hs2'.out] at this; exact this
end Go.Proofs.Qxb6613837a
