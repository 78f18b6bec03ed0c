import Derived.Test.Qxb6613837aW16
namespace Go.Proofs.Qxb6613837a
open Go.RowKit
set_option linter.unusedVariables false

theorem XM.congr {w : World} {n0 X k i : Nat} {Rx : Nat → Nat} {f f' : Nat → Nat → Int} (h : XM w n0 X k i Rx f) (e : ∀ r x, r < i → x < k → f r x = f' r x) : XM w n0 X k i Rx f' :=
  ⟨h.tbl, fun r hr => (h.row r hr).congr (fun x hx => e r x hr hx), h.nX, h.nR, h.inj⟩
theorem XM.set {w : World} {n0 X k i : Nat} {Rx : Nat → Nat} {f : Nat → Nat → Int} (h : XM w n0 X k i Rx f) {r0 j0 : Nat} (hr0 : r0 < i) (z : Int) : XM (w.setCell ⟨Rx r0, j0, none⟩ (.int .i64 z)) n0 X k i Rx (fun r x => if r = r0 ∧ x = j0 then z else f r x) := by
  refine ⟨h.tbl.of_block (Below.heap_setCell _ _ _ _ (fun e => (h.nR r0 hr0).2 e.symm)), fun r hr => ?_, h.nX, h.nR, h.inj⟩
  by_cases e : r = r0
  · subst e
    refine ((h.row r hr).set j0 z).congr fun x hx => ?_
    by_cases e2 : x = j0
    · subst e2; rw [upd_same, if_pos ⟨rfl, rfl⟩]
    · rw [upd_ne _ _ e2, if_neg (fun h => e2 h.2)]
  · refine ((h.row r hr).setOther (h.inj r r0 hr hr0 e) _).congr fun x hx => ?_
    rw [if_neg (fun h => e h.1)]
theorem XM.drew {w : World} {n0 X k i : Nat} {Rx : Nat → Nat} {f : Nat → Nat → Int} (h : XM w n0 X k i Rx f) : XM w.drew n0 X k i Rx f := h.of_block fun b _ _ => rfl

/-- What grouped answers. -/
def GPost (w0 : World) (k : Nat) (ap : Nat → Nat → Bool) (sup : Nat → Int) (e : Ending) (w' : World) : Prop :=
  Kept (fun _ => False) w0 w' ∧ (((flowOf k ap).1 < 2 * k ∧ e = .returned (.slice none 0 0)) ∨ (2 * k ≤ (flowOf k ap).1 ∧ ∃ (X : Nat) (Rx : Nat → Nat), e = .returned (.slice (some ⟨X, 0, none⟩) k k) ∧ XM w' w0.heap.size X k k Rx (fun r j => (pairX k ap r j : Int) * sup r)))

set_option maxRecDepth 100000 in
set_option maxHeartbeats 2000000 in
theorem grouped_any {w0 : World} {k ab c Ph : Nat} {a : Option Addr} {sup : Nat → Int} {ap : Nat → Nat → Bool} (hk : k ≤ 256) (ha : 0 < k → a = some ⟨ab, 0, none⟩) (hsup : 0 < k → IRow w0 ab k sup) (hrange : ∀ i, i < k → -9223372036854775808 ≤ sup i ∧ sup i ≤ 9223372036854775807)
    (LINK : ∀ (Pa i j : Nat) (w1 w' : World), i < k → j < k → Kept (fun _ => False) w0 w1 → w1.cell? ⟨Pa, 0, none⟩ = some (.func (.func 22) #[] #[.pointer (some ⟨Ph, 0, none⟩)]) → Kept (fun _ => False) w1 w' → Calls Try.prog 27 #[.int .i64 i, .int .i64 j, .pointer (some ⟨Pa, 0, none⟩)] w' fun e w'' => e = .returned (.tuple #[.agg #[.int .i64 0, .int .i64 1], .bool (ap i j)]) ∧ Kept (fun _ => False) w' w'') :
    Calls Try.prog 21 #[.slice a k c, .func (.func 22) #[] #[.pointer (some ⟨Ph, 0, none⟩)]] w0 fun e w' => GPost w0 k ap sup e w' := by
  have hmk := make22 k (by omega)
  have hsuph := hid hsup
  have hah := hid ha
  have LINKh := hid LINK
  have hrh := hid hrange
  clear hsup LINK hrange ha
  go_enter Try.func21, Try.ntmps21
  obtain ⟨Pa, hPa⟩ : ∃ x, x = w0.heap.size := ⟨_, rfl⟩
  obtain ⟨sb, hsb⟩ : ∃ x, x = w0.heap.size + 1 := ⟨_, rfl⟩
  go_wp2_with fail
  rw [← hsb, ← hPa]
  have hPah := hid hPa
  have hsbh := hid hsb
  clear hPa hsb
  go_loopg [16] k (fun n v16 wr => ∃ i : Nat, v16 = .int .i64 i ∧ Hid (n + i = k) ∧ Hid (Kept (fun _ => False) w0 wr) ∧ Hid (IRow wr sb k (fun x => if x < i then 1 else 0)) ∧ Hid (wr.cell? ⟨Pa, 0, none⟩ = some (.func (.func 22) #[] #[.pointer (some ⟨Ph, 0, none⟩)])))
  case atStart =>
    refine ⟨0, rfl, hid (by omega), hid (((Kept.refl _ w0).alloc _).alloc _), hid ?_, hid ?_⟩
    · exact (IRow.made _ k sb (by simp [hsbh.out])).congr (fun x _ => by rw [if_neg (by omega)])
    · refine kept_cell ?_ ((Kept.refl (fun _ => False) _).alloc _) id
      rw [hPah.out]
      exact cell_one (heap_alloc_new w0 _)
  case round =>
    obtain ⟨i, rfl, hn, K1, R1, P1⟩ := hrel
    by_cases hi : i < k
    · have hi' : (i : Int) < (k : Int) := by omega
      have hw1 : IntKind.i64.wrap ((i : Int) + 1) = ((i + 1 : Nat) : Int) := by rw [IntKind.wrap_i64]; omega
      have c1 := R1.out.cell hi
      have f1 := R1.out.frozen i
      go_wp2
      go_roundg (gk - 1)
      case measure => have := hn.out; omega
      case rel =>
        have Kw : Kept (fun b => b = sb) wr (wr.setCell ⟨sb, i, none⟩ (.int .i64 1)) := (Kept.refl (fun b => b = sb) wr).setCell (a := ⟨sb, i, none⟩) rfl _
        refine ⟨i + 1, rfl, hid (by have := hn.out; omega), hid (K1.out.join Kw (by intro b hb h; have := hsbh.out; omega)), hid ?_, hid (kept_cell P1.out Kw (by have := hsbh.out; have := hPah.out; omega))⟩
        refine (R1.out.set i 1).congr fun x hx => ?_
        by_cases e : x = i
        · subst e; rw [upd_same, if_pos (by omega)]
        · rw [upd_ne _ _ e]
          by_cases h2 : x < i
          · rw [if_pos h2, if_pos (by omega)]
          · rw [if_neg h2, if_neg (by omega)]
    · have hi' : ¬ (i : Int) < (k : Int) := by omega
      have R2 := R1.out.congr (f' := fun _ => 1) (fun x hx => by rw [if_pos (by omega)])
      have TR := transport_any (Pa := Pa) (ap := ap) hk R2 (fun i j w' h1 h2 h3 => LINKh.out Pa i j wr w' h1 h2 K1.out P1.out h3)
      clear R2
      by_cases hfl : (flowOf k ap).1 < 2 * k
      · have TRn : Hid (Calls Try.prog 26 #[.slice (some ⟨sb, 0, none⟩) k k, .agg #[.int .i64 1, .int .i64 1], .func (.func 27) #[] #[.pointer (some ⟨Pa, 0, none⟩)]] wr fun e w' => e = .returned (.slice none 0 0) ∧ Hid (Kept (fun _ => False) wr w')) := hid (TR.mono (fun e w' h => by
          rcases h.2 with h2 | h2
          · exact ⟨h2.2, hid h.1⟩
          · omega))
        have hflh := hid hfl
        clear TR hfl
        go_wp2_with (go_at_call 26; refine TRn.out.mono ?_; rintro e w1 ⟨rfl, K2⟩)
        go_loopg [29] 0 (fun n v29 wr => v29 = .int .i64 0 ∧ wr = w1)
        case atStart => exact ⟨rfl, rfl⟩
        case round =>
          obtain ⟨rfl, rfl⟩ := hrel
          go_wp2
          go_ret
          unfold GPost
          exact ⟨K1.out.trans K2.out, .inl ⟨hflh.out, rfl⟩⟩
      · have TRx : Hid (Calls Try.prog 26 #[.slice (some ⟨sb, 0, none⟩) k k, .agg #[.int .i64 1, .int .i64 1], .func (.func 27) #[] #[.pointer (some ⟨Pa, 0, none⟩)]] wr fun e w' => ∃ (X : Nat) (Rx : Nat → Nat), e = .returned (.slice (some ⟨X, 0, none⟩) k k) ∧ Hid (Kept (fun _ => False) wr w') ∧ Hid (XM w' wr.heap.size X k k Rx (fun r j => (pairX k ap r j : Int)))) := hid (TR.mono (fun e w' h => by
          rcases h.2 with h2 | ⟨_, X, Rx, h3, h4⟩
          · omega
          · exact ⟨X, Rx, h3, hid h.1, hid h4⟩))
        have hflh := hid hfl
        have PF := hid (pairs_full (k := k) (ap := ap) (by omega)).1
        clear TR hfl
        go_wp2_with (go_at_call 26; refine TRx.out.mono ?_; rintro e w1 ⟨X, Rx, rfl, K2, hX⟩)
        obtain ⟨wr1, hwr1⟩ : ∃ x, x = wr := ⟨_, rfl⟩
        subst hwr1
        go_loopg [29] k (fun n v29 wr => ∃ i : Nat, v29 = .int .i64 i ∧ Hid (n + i = k) ∧ Hid (Kept (fun _ => False) wr1 wr) ∧ Hid (XM wr wr1.heap.size X k k Rx (fun r x => if r < i then (pairX k ap r x : Int) * sup r else (pairX k ap r x : Int))))
        case atStart => exact ⟨0, rfl, hid (by omega), hid K2.out, hid (hX.out.congr (fun r x _ _ => by rw [if_neg (by omega)]))⟩
        case round =>
          clear K2 hX
          obtain ⟨r, rfl, hnr, KR, XR⟩ := hrel
          obtain ⟨gk0, hgk0⟩ : ∃ x, x = gk := ⟨_, rfl⟩
          subst hgk0
          obtain ⟨wr2, hwr2⟩ : ∃ x, x = wr := ⟨_, rfl⟩
          subst hwr2
          by_cases hr : r < k
          · have hr' : (r : Int) < (k : Int) := by omega
            have hw2 : IntKind.i64.wrap ((r : Int) + 1) = ((r + 1 : Nat) : Int) := by rw [IntKind.wrap_i64]; omega
            have cX := XR.out.tbl.cell hr
            go_wp2_with fail
            go_loopg [36] k (fun n v36 wr => ∃ j : Nat, v36 = .int .i64 j ∧ Hid (n + j = k) ∧ Hid (Kept (fun _ => False) wr1 wr) ∧ Hid (XM wr wr1.heap.size X k k Rx (fun r' x => if r' < r ∨ (r' = r ∧ x < j) then (pairX k ap r' x : Int) * sup r' else (pairX k ap r' x : Int))))
            case atStart => exact ⟨0, rfl, hid (by omega), hid KR.out, hid (XR.out.congr (fun r' x _ _ => by
              by_cases h : r' < r
              · rw [if_pos h, if_pos (.inl h)]
              · rw [if_neg h, if_neg (by omega)]))⟩
            case round =>
              clear KR XR cX
              obtain ⟨j, rfl, hnj, KJ, XJ⟩ := hrel
              by_cases hj : j < k
              · have hj' : (j : Int) < (k : Int) := by omega
                have hw3 : IntKind.i64.wrap ((j : Int) + 1) = ((j + 1 : Nat) : Int) := by rw [IntKind.wrap_i64]; omega
                have cr := (XJ.out.row r hr).cell hj
                rw [if_neg (by omega)] at cr
                have fr := (XJ.out.row r hr).frozen j
                have haa := hah.out (by omega)
                subst haa
                have cs := (((hsuph.out (by omega)).kept K1.out id).kept KJ.out id).cell hr
                have hb := (PF.out r j hr hj).1
                have hrg := hrh.out r hr
                have hw4 : IntKind.i64.wrap ((pairX k ap r j : Int) * sup r) = (pairX k ap r j : Int) * sup r := by
                  rw [IntKind.wrap_i64]
                  have : pairX k ap r j = 0 ∨ pairX k ap r j = 1 := by omega
                  rcases this with h | h
                  · rw [h]; simp
                  · rw [h]; simp only [Int.natCast_one, Int.one_mul]; omega
                generalize hz : (pairX k ap r j : Int) * sup r = z at hw4
                go_wp2_with fail
                go_region
                all_goals go_wp2
                all_goals go_roundg (gk - 1)
                all_goals (try (have := hnj.out; omega))
                all_goals
                  have hnew : w0.heap.size ≤ Rx r := Nat.le_trans K1.out.size (XJ.out.nR r hr).1
                  have Kw : Kept (fun b => b = Rx r) wr (wr.setCell ⟨Rx r, j, none⟩ (.int .i64 z)).drew := ((Kept.refl (fun b => b = Rx r) wr).setCell (a := ⟨Rx r, j, none⟩) rfl _).drew
                  refine ⟨j + 1, rfl, hid (by have := hnj.out; omega), hid (KJ.out.join Kw (by intro b hb h; have := (XJ.out.nR r hr).1; omega)), hid (((XJ.out.set hr z).drew).congr (fun r' x _ hx => ?_))⟩
                  by_cases e : r' = r ∧ x = j
                  · rw [if_pos e, if_pos (by omega), e.1, e.2]; exact hz.symm
                  · rw [if_neg e]
                    by_cases h2 : r' < r ∨ (r' = r ∧ x < j)
                    · rw [if_pos h2, if_pos (by omega)]
                    · rw [if_neg h2, if_neg (by omega)]
              · have hj' : ¬ (j : Int) < (k : Int) := by omega
                go_wp2
                go_roundg (gk0 - 1)
                case measure => have := hnr.out; omega
                case rel =>
                  refine ⟨r + 1, rfl, hid (by have := hnr.out; omega), hid KJ.out, hid (XJ.out.congr (fun r' x _ hx => ?_))⟩
                  by_cases h : r' < r + 1
                  · rw [if_pos h, if_pos (by omega)]
                  · rw [if_neg h, if_neg (by omega)]
          · have hr' : ¬ (r : Int) < (k : Int) := by omega
            go_wp2
            go_ret
            unfold GPost
            refine ⟨K1.out.join KR.out (by intro b hb h; exact h), .inr ⟨by have := hflh.out; omega, X, Rx, rfl, ?_⟩⟩
            have h := XR.out.congr (f' := fun r j => (pairX k ap r j : Int) * sup r) (fun r' x hr2 _ => by rw [if_pos (by omega)])
            have hs := K1.out.size
            exact ⟨h.tbl, h.row, Nat.le_trans hs h.nX, fun r hr => ⟨Nat.le_trans hs (h.nR r hr).1, (h.nR r hr).2⟩, h.inj⟩

set_option maxRecDepth 100000 in
set_option maxHeartbeats 1000000 in
theorem zzgrouped_any {w0 : World} {k ab c hb ch : Nat} {a h : Option Addr} {sup : Nat → Int} {s : Nat → ByteArray} (hk : k ≤ 256) (ha : 0 < k → a = some ⟨ab, 0, none⟩) (hsup : 0 < k → IRow w0 ab k sup) (hrange : ∀ i, i < k → -9223372036854775808 ≤ sup i ∧ sup i ≤ 9223372036854775807)
    (hh : 0 < k → h = some ⟨hb, 0, none⟩) (hhs : 0 < k → SRow w0 hb k s) :
    Calls Try.prog 10 #[.slice a k c, .slice h k ch] w0 fun e w' => GPost w0 k (apS s) sup e w' := by
  have K0 : Kept (fun _ => False) w0 (w0.alloc (.cells #[.slice h k ch] 23)) := (Kept.refl _ w0).alloc _
  have cph : (w0.alloc (.cells #[.slice h k ch] 23)).cell? ⟨w0.heap.size, 0, none⟩ = some (.slice h k ch) := cell_one (heap_alloc_new w0 _)
  have GR := hid (grouped_any (w0 := w0.alloc (.cells #[.slice h k ch] 23)) (ab := ab) (c := c) (a := a) (Ph := w0.heap.size) (ap := apS s) hk ha (fun h0 => (hsup h0).kept K0 id) hrange
    (fun Pa i j w1 w' hi hj k1 hpa k2 => by
      have h0 : 0 < k := by omega
      have hh' := hh h0
      subst hh'
      have L : LinkOk w1 Pa w0.heap.size hb k ch s := ⟨hpa, kept_cell cph k1 id, ((hhs h0).kept K0 id).kept k1 id⟩
      exact link_any (L.kept k2) (by omega) hi hj))
  have K0h := hid K0
  clear ha hsup hrange hh hhs cph K0
  go_enter Try.func10, Try.ntmps10
  go_wp2_with fail
  refine GR.out.mono ?_
  intro e w1 hpost
  have hK := K0h.out.trans hpost.1
  have hs := K0h.out.size
  rcases hpost.2 with ⟨h1, rfl⟩ | ⟨h1, X, Rx, rfl, hX⟩
  · have GP : Hid (GPost w0 k (apS s) sup (.returned (.slice none 0 0)) w1) := hid ⟨hK, .inl ⟨h1, rfl⟩⟩
    clear hpost hK hs h1
    go_wp2
    go_ret
    exact GP.out
  · have GP : Hid (GPost w0 k (apS s) sup (.returned (.slice (some ⟨X, 0, none⟩) k k)) w1) := hid ⟨hK, .inr ⟨h1, X, Rx, rfl, hX.tbl, hX.row, Nat.le_trans hs hX.nX, fun r hr => ⟨Nat.le_trans hs (hX.nR r hr).1, (hX.nR r hr).2⟩, hX.inj⟩⟩
    clear hpost hK hs h1 hX
    go_wp2
    go_ret
    exact GP.out
end Go.Proofs.Qxb6613837a
