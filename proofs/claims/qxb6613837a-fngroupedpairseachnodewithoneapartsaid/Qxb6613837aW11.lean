import Derived.Test.Qxb6613837aW10
import Derived.Deep.Cut
import Derived.Deep.CutRange
import Derived.Deep.RegionLaw
namespace Go.Proofs.Qxb6613837a
open Go.RowKit
set_option linter.unusedVariables false

theorem or_right {p q r : Prop} (h : p ∨ q) (f : q → r) : p ∨ r := by
  rcases h with h | h
  · exact .inl h
  · exact .inr (f h)

set_option maxRecDepth 100000 in
set_option maxHeartbeats 1000000 in
theorem add_any {w : World} {base g O V u v c : Nat} {A : Nat → Option Addr} {cp : Nat → Nat} {ls : Nat → List Nat} (S : St w base g O V A cp ls) (hV : V ≤ 1000000) (hu : u < V) (hv : v < V) (huv : u ≠ v) (hlen : ∀ i, i < V + 2 → (ls i).length ≤ 10000000) (hbase : base ≤ w.heap.size) :
    Calls Try.prog 36 #[.pointer (some ⟨g, 0, none⟩), .int .i64 u, .int .i64 v, .int .i64 c] w fun e w' => e = .returned (.int .i64 (ls 0).length) ∧ ∃ A' cp',
      St w' base g O V A' cp' (upd (upd (upd (upd ls 0 (ls 0 ++ [v, u])) 1 (ls 1 ++ [c, 0])) (u + 2) (ls (u + 2) ++ [(ls 0).length])) (v + 2) (ls (v + 2) ++ [(ls 0).length + 1])) ∧
      Kept (fun b => b = g ∨ b = O ∨ Foot (V + 2) A b) w w' ∧ (∀ b, Foot (V + 2) A' b → Foot (V + 2) A b ∨ w.heap.size ≤ b) := by
  have hV0 : 0 < V := by omega
  have S' := hid S
  have c0 := S.f0
  have c1 : w.cell? ⟨g, 1, none⟩ = some (.slice (A 0) (ls 0).length (cp 0)) := S.cell 0 (by omega)
  have hl0 := hlen 0 (by omega)
  have hl1 := hlen 1 (by omega)
  have hlu := hlen (u + 2) (by omega)
  have hlv := hlen (v + 2) (by omega)
  have hgl := S.glt
  have hlen' := hid hlen
  have hbase' := hid hbase
  clear S hlen
  go_enter Try.func36, Try.ntmps36
  go_wp2_with (first | (at_builtin; refine wpList_append_fam rfl (.tmp 19) (.tmp 22) rfl (S'.out.fam.alloc _) (i := 0) (by omega) ⟨w.heap.size, 0, none⟩ 2 2 [v, u] rfl rfl rfl (World.news_of_block (heap_alloc_new w _)) (by omega) (by omega) (by simp; omega) ?_))
  intro g1 k1 w1 F1 G1 H1
  obtain ⟨-, m0, mc, mg, mO⟩ := S'.out.mid hV0 (i := 0) (by omega) rfl G1
  have d0 : w1.cell? ⟨g, 1, none⟩ = some (.slice (A 0) (ls 0).length (cp 0)) := mc 0 (by omega)
  have d2 := mg 1
  obtain ⟨S1, K1, FT1⟩ := S'.out.step hV0 (i := 0) (by omega) rfl G1 (or_right H1 (fun h => by omega)) F1 (a := ⟨g, 1, none⟩) rfl (n := (ls 0).length + 2) (by simp)
  have S1h := hid S1
  have K1h := hid K1
  have FT1h := hid FT1
  clear S1 K1 FT1 mc mg mO F1 G1 H1 c1 c0
  go_upto_region 3 with fail
  clear m0 d0 d2
  generalize w1.setCell ⟨g, 1, none⟩ (.slice (some ⟨g1, 0, none⟩) ((ls 0).length + 2) k1) = W1 at S1h K1h ⊢
  generalize upd A 0 (some ⟨g1, 0, none⟩) = A1 at S1h FT1h
  generalize upd cp 0 k1 = cp1 at S1h
  have e11 : Hid ((upd ls 0 (ls 0 ++ [v, u])) 1 = ls 1) := hid (upd_ne _ _ (by omega))
  generalize hls1 : upd ls 0 (ls 0 ++ [v, u]) = ls1 at S1h e11
  have hl1' : (ls1 1).length ≤ 10000000 := by rw [e11.out]; exact hl1
  have hls1h := hid hls1
  clear hls1
  have c1 : W1.cell? ⟨g, 2, none⟩ = some (.slice (A1 1) (ls1 1).length (cp1 1)) := S1h.out.cell 1 (by omega)
  have hW1 := K1h.out.size
  have hgl1 := S1h.out.glt
  go_wp2_with (first | (at_builtin; refine wpList_append_fam rfl (.tmp 30) (.tmp 32) rfl (S1h.out.fam.alloc _) (i := 1) (by omega) ⟨W1.heap.size, 0, none⟩ 2 2 [c, 0] rfl rfl rfl (World.news_of_block (heap_alloc_new W1 _)) (by omega) (by omega) (by simp; omega) ?_))
  intro g2 k2 w2 F2 G2 H2
  obtain ⟨-, m0, mc, mg, mO⟩ := S1h.out.mid hV0 (i := 1) (by omega) rfl G2
  have d0 : w2.cell? ⟨g, 2, none⟩ = some (.slice (A1 1) (ls1 1).length (cp1 1)) := mc 1 (by omega)
  have d2 := mg 2
  obtain ⟨S2, K2, FT2⟩ := S1h.out.step hV0 (i := 1) (by omega) rfl G2 (or_right H2 (fun h => by omega)) F2 (a := ⟨g, 2, none⟩) rfl (n := (ls1 1).length + 2) (by simp)
  have S2h := hid S2
  have K2h := hid (K1h.out.join K2 (by intro b hb h; rcases h with h | h | h; exact .inl h; exact .inr (.inl h); rcases FT1h.out b h with h | h; exact .inr (.inr h); omega))
  have FT2h : Hid (∀ b, Foot (V + 2) (upd A1 1 (some ⟨g2, 0, none⟩)) b → Foot (V + 2) A b ∨ w.heap.size ≤ b) := hid (by intro b hb; rcases FT2 b hb with h | h; exact FT1h.out b h; right; omega)
  clear S2 K2 FT2 mc mg mO F2 G2 H2 c1
  go_upto_region 4 with fail
  clear m0 d0 d2
  generalize w2.setCell ⟨g, 2, none⟩ (.slice (some ⟨g2, 0, none⟩) ((ls1 1).length + 2) k2) = W2 at S2h K2h ⊢
  generalize upd A1 1 (some ⟨g2, 0, none⟩) = A2 at S2h FT2h
  generalize upd cp1 1 k2 = cp2 at S2h
  have e2u : Hid (upd ls1 1 (ls1 1 ++ [c, 0]) (u + 2) = ls (u + 2)) := hid (by rw [upd_ne _ _ (by omega), ← hls1h.out, upd_ne _ _ (by omega)])
  have e2v : Hid (upd ls1 1 (ls1 1 ++ [c, 0]) (v + 2) = ls (v + 2)) := hid (by rw [upd_ne _ _ (by omega), ← hls1h.out, upd_ne _ _ (by omega)])
  generalize hls2 : upd ls1 1 (ls1 1 ++ [c, 0]) = ls2 at S2h e2u e2v
  have hlu' : (ls2 (u + 2)).length ≤ 10000000 := by rw [e2u.out]; exact hlu
  have hls2h := hid hls2
  clear hls2 hl1' hgl1 hW1
  have hW2 := K2h.out.size
  have c0 := S2h.out.f0
  have cu : W2.cell? ⟨O, u, none⟩ = some (.slice (A2 (u + 2)) (ls2 (u + 2)).length (cp2 (u + 2))) := S2h.out.cell (u + 2) (by omega)
  have fu := S2h.out.frO u
  have hgO := S2h.out.gO
  have hOg : O ≠ g := fun h => hgO h.symm
  have hgl2 := S2h.out.glt
  have hOl2 := S2h.out.Olt hV0
  go_cut [9] from 10 (fun v9 wc => v9 = .int .i64 (ls 0).length ∧ ∃ A3 cp3, Hid (St wc base g O V A3 cp3 (upd ls2 (u + 2) (ls2 (u + 2) ++ [(ls 0).length]))) ∧ Hid (Kept (fun b => b = g ∨ b = O ∨ Foot (V + 2) A b) w wc) ∧ Hid (∀ b, Foot (V + 2) A3 b → Foot (V + 2) A b ∨ w.heap.size ≤ b))
  case first =>
    go_region_law
      ((refine step_append_fam (by rfl) (.tmp 47) (.tmp 49) (by rfl) (S2h.out.drew.fam.alloc _) (i := u + 2) (by omega) ⟨W2.heap.size, 0, none⟩ 1 1 [(ls 0).length] (by rfl) (by rfl) (by rfl) (World.news_of_block (heap_alloc_new W2.drew _)) (by omega) (by omega) (by simp; omega) ?_; intro g3 k3 w3 F3 G3 H3; obtain ⟨-, HS3, mc, mg, mO⟩ := S2h.out.drew.mid hV0 (i := u + 2) (by omega) rfl G3; have d3 : w3.cell? ⟨O, u, none⟩ = some (.slice (A2 (u + 2)) (ls2 (u + 2)).length (cp2 (u + 2))) := mc (u + 2) (by omega); have f3 := mO u; have F3h := hid F3; have G3h := hid G3; have H3h := hid H3; clear F3 G3 H3 mc mg mO))
    all_goals go_wp2_with fail
    all_goals go_meet
    all_goals
      obtain ⟨S3, K3, FT3⟩ := S2h.out.drew.step hV0 (i := u + 2) (by omega) rfl G3h.out (or_right H3h.out (fun h => by simp at h; simp; omega)) F3h.out (a := ⟨O, u, none⟩) rfl (n := (ls2 (u + 2)).length + 1) (by simp)
      exact ⟨rfl, _, _, hid S3, hid (K2h.out.drew.join K3 (by intro b hb h; rcases h with h | h | h; exact .inl h; exact .inr (.inl h); rcases FT2h.out b h with h | h; exact .inr (.inr h); omega)), hid (by intro b hb; rcases FT3 b hb with h | h; exact FT2h.out b h; right; have : W2.heap.size ≤ b := h; omega)⟩
  case rest =>
    clear c0 cu fu hgl2 hOl2 hlu'
    obtain ⟨rfl, A3, cp3, S3h, K3h, FT3h⟩ := hcut
    have e3v : Hid (upd ls2 (u + 2) (ls2 (u + 2) ++ [(ls 0).length]) (v + 2) = ls (v + 2)) := hid (by rw [upd_ne _ _ (by omega)]; exact e2v.out)
    generalize hls3 : upd ls2 (u + 2) (ls2 (u + 2) ++ [(ls 0).length]) = ls3 at S3h e3v
    have hls3h := hid hls3
    have hlv' : (ls3 (v + 2)).length ≤ 10000000 := by rw [e3v.out]; exact hlv
    clear hls3
    have hW3 := K3h.out.size
    have c0 := S3h.out.f0
    have cv : wc.cell? ⟨O, v, none⟩ = some (.slice (A3 (v + 2)) (ls3 (v + 2)).length (cp3 (v + 2))) := S3h.out.cell (v + 2) (by omega)
    have fv := S3h.out.frO v
    have hgl3 := S3h.out.glt
    have hOl3 := S3h.out.Olt hV0
    obtain ⟨e1, he1⟩ : ∃ e1 : Nat, e1 = (ls 0).length + 1 := ⟨_, rfl⟩
    have hw1 : IntKind.i64.wrap (((ls 0).length : Int) + 1) = (e1 : Int) := by rw [IntKind.wrap_i64]; omega
    have he1h := hid he1
    clear he1
    go_upto_region 5 with fail
    go_region_law
      ((refine step_append_fam (by rfl) (.tmp 63) (.tmp 66) (by rfl) (S3h.out.drew.fam.alloc _) (i := v + 2) (by omega) ⟨wc.heap.size, 0, none⟩ 1 1 [e1] (by rfl) (by rfl) (by rfl) (World.news_of_block (heap_alloc_new wc.drew _)) (by omega) (by omega) (by simp; omega) ?_; intro g3 k3 w3 F3 G3 H3; obtain ⟨-, HS3, mc, mg, mO⟩ := S3h.out.drew.mid hV0 (i := v + 2) (by omega) rfl G3; have d3 : w3.cell? ⟨O, v, none⟩ = some (.slice (A3 (v + 2)) (ls3 (v + 2)).length (cp3 (v + 2))) := mc (v + 2) (by omega); have f3 := mO v; have F3h := hid F3; have G3h := hid G3; have H3h := hid H3; clear F3 G3 H3 mc mg mO))
    all_goals go_wp2
    all_goals go_ret
    all_goals
      obtain ⟨S4, K4, FT4⟩ := S3h.out.drew.step hV0 (i := v + 2) (by omega) rfl G3h.out (or_right H3h.out (fun h => by simp at h; simp; omega)) F3h.out (a := ⟨O, v, none⟩) rfl (n := (ls3 (v + 2)).length + 1) (by simp)
      have hfin : upd ls3 (v + 2) (ls3 (v + 2) ++ [e1]) = upd (upd (upd (upd ls 0 (ls 0 ++ [v, u])) 1 (ls 1 ++ [c, 0])) (u + 2) (ls (u + 2) ++ [(ls 0).length])) (v + 2) (ls (v + 2) ++ [(ls 0).length + 1]) := by
        rw [e3v.out, he1h.out, ← hls3h.out, e2u.out, ← hls2h.out, e11.out, ← hls1h.out]
      rw [hfin] at S4
      exact ⟨rfl, _, _, S4, K3h.out.drew.join K4 (by intro b hb h; rcases h with h | h | h; exact .inl h; exact .inr (.inl h); rcases FT3h.out b h with h | h; exact .inr (.inr h); omega), by intro b hb; rcases FT4 b hb with h | h; exact FT3h.out b h; right; have : wc.heap.size ≤ b := h; omega⟩
end Go.Proofs.Qxb6613837a
