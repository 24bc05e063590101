/-
  laws.posTokens at sums. Conditions: in the statements.
-/
import Derived.Test.YtkcpfgnfhbbhhaaDoorPoI
set_option linter.unusedVariables false
set_option linter.unusedSimpArgs false
namespace Go.Proofs.YtkcpfgnfhbbhhaaDoor.po
open Go.RowKit

set_option maxHeartbeats 4000000 in
set_option maxRecDepth 100000 in
theorem tok_add {w : World} {a c : PT} {p : Option Addr} {cap : Nat} (h : TAsk w [a, c] p) (hl : (toks a).length ≤ 3000) (hl2 : (toks c).length ≤ 3000) (hp2 : 0 < (toks c).length) : Calls Tryd.prog 8 #[.agg #[.string ⟨#[97, 100, 100]⟩, .string ⟨#[]⟩, .int .i64 0, .slice p 2 cap]] w (TokOut (.mk kAdd [] 0 [a, c]) w) := by
  have hw : Below w.heap.size w (w.alloc (.cells #[.string ⟨#[97, 100, 100]⟩, .string ⟨#[]⟩, .int .i64 0, .slice p 2 cap] 24)) := below_alloc w _
  obtain ⟨b0, o0, c0, c1, c2, c3, hp0, hq0, hc0⟩ := h.call hw 0 (by simp)
  subst hp0
  have HQ0 : Hid (∀ W, Below (w.alloc (.cells #[.string ⟨#[97, 100, 100]⟩, .string ⟨#[]⟩, .int .i64 0, .slice (some ⟨b0, o0, none⟩) 2 cap] 24)).heap.size (w.alloc (.cells #[.string ⟨#[97, 100, 100]⟩, .string ⟨#[]⟩, .int .i64 0, .slice (some ⟨b0, o0, none⟩) 2 cap] 24)) W → W.cell? ⟨b0, o0, none⟩ = some c0 ∧ W.cell? ⟨b0, o0 + 1, none⟩ = some c1 ∧ W.cell? ⟨b0, o0 + 2, none⟩ = some c2 ∧ W.cell? ⟨b0, o0 + 3, none⟩ = some c3) := fun W hW => by simpa using hq0 W hW
  have HC0 : Hid (∀ W, Below (w.alloc (.cells #[.string ⟨#[97, 100, 100]⟩, .string ⟨#[]⟩, .int .i64 0, .slice (some ⟨b0, o0, none⟩) 2 cap] 24)).heap.size (w.alloc (.cells #[.string ⟨#[97, 100, 100]⟩, .string ⟨#[]⟩, .int .i64 0, .slice (some ⟨b0, o0, none⟩) 2 cap] 24)) W → Calls Tryd.prog 8 #[.agg #[c0, c1, c2, c3]] W (TokOut a W)) := fun W hW => by simpa using hc0 W hW
  obtain ⟨b1, o1, d0, d1, d2, d3, hp1, hq1, hc1⟩ := h.call hw 1 (by simp)
  obtain ⟨rfl, rfl⟩ : b0 = b1 ∧ o0 = o1 := by simpa using hp1
  have HQ1 : Hid (∀ W, Below (w.alloc (.cells #[.string ⟨#[97, 100, 100]⟩, .string ⟨#[]⟩, .int .i64 0, .slice (some ⟨b0, o0, none⟩) 2 cap] 24)).heap.size (w.alloc (.cells #[.string ⟨#[97, 100, 100]⟩, .string ⟨#[]⟩, .int .i64 0, .slice (some ⟨b0, o0, none⟩) 2 cap] 24)) W → W.cell? ⟨b0, o0 + 4, none⟩ = some d0 ∧ W.cell? ⟨b0, o0 + 5, none⟩ = some d1 ∧ W.cell? ⟨b0, o0 + 6, none⟩ = some d2 ∧ W.cell? ⟨b0, o0 + 7, none⟩ = some d3) := fun W hW => by simpa using hq1 W hW
  have HC1 : Hid (∀ W, Below (w.alloc (.cells #[.string ⟨#[97, 100, 100]⟩, .string ⟨#[]⟩, .int .i64 0, .slice (some ⟨b0, o0, none⟩) 2 cap] 24)).heap.size (w.alloc (.cells #[.string ⟨#[97, 100, 100]⟩, .string ⟨#[]⟩, .int .i64 0, .slice (some ⟨b0, o0, none⟩) 2 cap] 24)) W → Calls Tryd.prog 8 #[.agg #[d0, d1, d2, d3]] W (TokOut c W)) := fun W hW => by simpa using hc1 W hW
  obtain ⟨w1, hw1⟩ : ∃ w1, w1 = w.alloc (.cells #[.string ⟨#[97, 100, 100]⟩, .string ⟨#[]⟩, .int .i64 0, .slice (some ⟨b0, o0, none⟩) 2 cap] 24) := ⟨_, rfl⟩
  rw [← hw1] at hw HQ0 HC0 HQ1 HC1
  have HW1 := Lib.hid hw1
  have HW := Lib.hid hw
  have hbx : obj w1 w.heap.size #[.string ⟨#[97, 100, 100]⟩, .string ⟨#[]⟩, .int .i64 0, .slice (some ⟨b0, o0, none⟩) 2 cap] 24 := by rw [hw1]; exact heap_alloc_new w _
  have HBX := Lib.hid hbx
  clear hw1 hw hbx h hq0 hc0 hq1 hc1
  have HSF : Hid (∀ w', Below w1.heap.size w1 w' → w'.cell? ⟨w.heap.size, 3, none⟩ = some (.slice (some ⟨b0, o0, none⟩) 2 cap) ∧ w'.cell? ⟨b0, o0, none⟩ = some c0 ∧ w'.cell? ⟨b0, o0 + 1, none⟩ = some c1 ∧ w'.cell? ⟨b0, o0 + 2, none⟩ = some c2 ∧ w'.cell? ⟨b0, o0 + 3, none⟩ = some c3 ∧ w'.cell? ⟨b0, o0 + 4, none⟩ = some d0 ∧ w'.cell? ⟨b0, o0 + 5, none⟩ = some d1 ∧ w'.cell? ⟨b0, o0 + 6, none⟩ = some d2 ∧ w'.cell? ⟨b0, o0 + 7, none⟩ = some d3 ∧ Hid (Below w1.heap.size w1 w')) := fun w' hb => by
    obtain ⟨x0, x1, x2, x3⟩ := HQ0.out w' hb
    obtain ⟨y0, y1, y2, y3⟩ := HQ1.out w' hb
    exact ⟨(hb.cell (p := ⟨w.heap.size, 3, none⟩) (lt_of_heap HBX.out)).trans (cells_of_heap HBX.out 3), x0, x1, x2, x3, y0, y1, y2, y3, hb⟩
  have tok1 : True := trivial
  have HP2 := Lib.hid hp2
  clear hp2
  go_enter Tryd.func8, Tryd.ntmps8
  go_wp2_with fail
  rw [← HW1.out]
  have hs0 := HSF.out _ ((Below.refl w1.heap.size w1).drew)
  go_region_held3 (fun w' => w'.cell? ⟨w.heap.size, 3, none⟩ = some (.slice (some ⟨b0, o0, none⟩) 2 cap) ∧ w'.cell? ⟨b0, o0, none⟩ = some c0 ∧ w'.cell? ⟨b0, o0 + 1, none⟩ = some c1 ∧ w'.cell? ⟨b0, o0 + 2, none⟩ = some c2 ∧ w'.cell? ⟨b0, o0 + 3, none⟩ = some c3 ∧ w'.cell? ⟨b0, o0 + 4, none⟩ = some d0 ∧ w'.cell? ⟨b0, o0 + 5, none⟩ = some d1 ∧ w'.cell? ⟨b0, o0 + 6, none⟩ = some d2 ∧ w'.cell? ⟨b0, o0 + 7, none⟩ = some d3 ∧ Hid (Below w1.heap.size w1 w'))
    (first | assumption | exact HSF.out _ HT6.out.below | exact HSF.out _ HT5.out.below | exact HSF.out _ HT4.out.below | exact HSF.out _ HB2.out | exact HSF.out _ (HB2.out.alloc HB2.out.size _) | exact HSF.out _ ((Below.refl w1.heap.size w1).drew.alloc (Nat.le_refl _) _))
    (first
      | (go_at_call 8; have _t := tok1; refine (HC0.out _ (‹_ ∧ _ ∧ _ ∧ _ ∧ _ ∧ _ ∧ _ ∧ _ ∧ _ ∧ Hid (Below _ _ _)›).2.2.2.2.2.2.2.2.2.out).mono ?_; rintro e w2 ⟨g, k, rfl, hr, hb2⟩; have HT2 := Lib.hid (TS.call (‹_ ∧ _ ∧ _ ∧ _ ∧ _ ∧ _ ∧ _ ∧ _ ∧ _ ∧ Hid (Below _ _ _)›).2.2.2.2.2.2.2.2.2.out hr hb2); have HB2 := Lib.hid HT2.out.below; (try have HN2 := Lib.hid ((hb2.block w1.heap.size (by simp)).trans (heap_alloc_new w1.drew _))); clear hr hb2 tok1)
      | (go_at_call 8; have _t := HT4; refine (HC1.out _ HT4.out.below).mono ?_; rintro e w5 ⟨g5, k5, rfl, hr, hb2⟩; have HR5 := Lib.hid hr; have HT5 := Lib.hid (HT4.out.on hb2); clear hr hb2)
      | (refine step_append_texts rfl (.tmp 36) (.tmp 37) rfl _ (toks a) (by simp [Act.eval, Act.put]) (HT2.out.on (below_alloc w2 _)) [tPlus] ⟨w2.heap.size, 0, none⟩ 1 (by simp [Act.eval, Act.put]) (World.news_of_block (heap_alloc_new w2 _)) (by decide) (by simp; omega) ?_; intro g4 k4 w4 hts hg4 hat; have HT4 := Lib.hid hts; clear hts hg4 hat)
      | (refine step_append_texts rfl (.tmp 36) (.tmp 37) rfl _ (toks a) (by simp [Act.eval, Act.put]) HT2.out [tPlus] ⟨w1.heap.size, 0, none⟩ 1 (by simp [Act.eval, Act.put]) (World.news_of_block HN2.out) (by decide) (by simp; omega) ?_; intro g4 k4 w4 hts hg4 hat; have HT4 := Lib.hid hts; clear hts hg4 hat)
      | (refine step_append_texts rfl (.tmp 38) (.tmp 43) rfl _ (toks a ++ [tPlus]) (by simp [Act.eval, Act.put]) HT5.out (toks c) ⟨g5, 0, none⟩ k5 (by simp [Act.eval, Act.put]) (row_news HR5.out) HP2.out (by simp; omega) ?_; intro g6 k6 w6 hts hg4 hat; have HT6 := Lib.hid hts; clear hts hg4 hat))
  all_goals go_wp2_with fail
  all_goals go_ret
  all_goals refine tok_end HW.out (l := toks a ++ [tPlus] ++ toks c) (by rw [toks_add]; simp) (by simp <;> omega) ?_
  all_goals simpa using HT6.out
end Go.Proofs.YtkcpfgnfhbbhhaaDoor.po
