import Derived.Test.Qxb6613837aW3
import Derived.Deep.LoopGhost
namespace Go.Proofs.Qxb6613837a
open Go.RowKit
set_option linter.unusedVariables false

theorem Kept.mono {ex ex' : Nat → Prop} {w w' : World} (h : Kept ex w w') (hx : ∀ b, ex b → ex' b) : Kept ex' w w' := ⟨h.os, h.tape, h.output, h.size, fun b hb he => h.block b hb (fun hc => he (hx b hc))⟩
theorem Kept.drewN {ex : Nat → Prop} {w w' : World} (h : Kept ex w w') (n : Nat) : Kept ex w (w'.drewN n) := ⟨h.os, h.tape, h.output, h.size, h.block⟩
theorem IRow.drewN {w : World} {b n : Nat} {f : Nat → Int} (h : IRow w b n f) (q : Nat) : IRow (w.drewN q) b n f := h.of_block rfl
theorem IRow.congr {w : World} {b n : Nat} {f f' : Nat → Int} (h : IRow w b n f) (e : ∀ i, i < n → f i = f' i) : IRow w b n f' := by
  obtain ⟨c, t, hb, hc⟩ := h
  exact ⟨c, t, hb, fun i hi => by rw [hc i hi, e i hi]⟩

/-- What stays while a phase pushes. -/
structure Ctx (V m : Nat) (out : Nat → List Nat) (head : Nat → Nat) (level : Nat → Int) (ex : Nat → Prop) (L N R : Nat) : Prop where
  wf : Wf V m out head
  hm : m ≤ 1000000
  hV : V ≤ 1000000
  len : ∀ u, (out u).length ≤ 1000000
  lv : ∀ x, -1 ≤ level x ∧ level x ≤ 1000000
  xR : ex R
  xN : ex N
  xL : ¬ ex L
  rn : R ≠ N

theorem upd_cast (f : Nat → Nat) (i v : Nat) : (fun x => ((upd f i v x : Nat) : Int)) = upd (fun x => (f x : Int)) i (v : Int) := by
  funext x
  by_cases e : x = i
  · subst e; rw [upd_same, upd_same]
  · rw [upd_ne _ _ e, upd_ne _ _ e]
section
variable {out : Nat → List Nat} {head : Nat → Nat} {level : Nat → Int} {call : Nat → Nat → (Nat → Nat) → (Nat → Nat) → Nat × (Nat → Nat) × (Nat → Nat)} {u limit c e : Nat} {room next : Nat → Nat}
theorem loop_skip (he : (out u).getD (next u) 0 = e) (h : room e = 0 ∨ level (head e) ≠ level u + 1) : pushLoop out head level call u limit (c + 1) room next = pushLoop out head level call u limit c room (upd next u (next u + 1)) := by
  subst he; rw [pushLoop, if_pos h]
theorem loop_hit (he : (out u).getD (next u) 0 = e) (h0 : room e ≠ 0) (h1 : level (head e) = level u + 1) {f : Nat} {r2 n2 : Nat → Nat} (hr : call (head e) (min limit (room e)) room next = (f, r2, n2)) (hf : 0 < f) :
    pushLoop out head level call u limit (c + 1) room next = (f, upd (upd r2 e (r2 e - f)) (mate e) (r2 (mate e) + f), n2) := by
  subst he; rw [pushLoop, if_neg (fun h => h.elim h0 (fun h => h h1)), hr, if_pos hf]
theorem loop_miss (he : (out u).getD (next u) 0 = e) (h0 : room e ≠ 0) (h1 : level (head e) = level u + 1) {f : Nat} {r2 n2 : Nat → Nat} (hr : call (head e) (min limit (room e)) room next = (f, r2, n2)) (hf : ¬ 0 < f) :
    pushLoop out head level call u limit (c + 1) room next = pushLoop out head level call u limit c r2 (upd n2 u (n2 u + 1)) := by
  subst he; rw [pushLoop, if_neg (fun h => h.elim h0 (fun h => h h1)), hr, if_neg hf]
end


/-- A statement that the walk's own reckoning does not open. -/
structure Veiled (p : Prop) : Prop where
  out : p
theorem veil_step {P : Program} {ops : Array Oper} {C : World → Prop} {Q : Act → Prop} {a : Act} {o : Oper} {rest : List Oper}
    (h : ∀ K : Act → Prop, (∀ a, Veiled (wpQuiet P ops C Q rest a) → K a) → if Region.wanted o (yielded ops a.tmps) then o.quiet P a C K else K (a.put o.dst undef)) : Veiled (wpQuiet P ops C Q (o :: rest) a) :=
  ⟨wpQuiet_step fun K hK => h K fun a v => hK a v.out⟩
theorem veil_nil {P : Program} {ops : Array Oper} {C : World → Prop} {Q : Act → Prop} {a : Act} (h : Q a) : Veiled (wpQuiet P ops C Q [] a) := ⟨wpQuiet_nil h⟩
theorem veil_region {P : Program} {id : Nat} {Q : Exit → Act → World → Prop} {a : Act} {w : World} {l : List Oper} (hm : P.follows .mixedOrders = true) (hB : Region.lexB .any l.toArray = true)
    (h : Veiled (wpQuiet P l.toArray (fun w' => ∃ n, w' = w.drewN n) (fun a' => ∀ w', (∃ n, w' = w.drewN n) → Q .normal a' w') l a)) : (Code.region id l.toArray true).wp P Q a w :=
  wp_region_quiet_lit hm hB h.out
end Go.Proofs.Qxb6613837a
