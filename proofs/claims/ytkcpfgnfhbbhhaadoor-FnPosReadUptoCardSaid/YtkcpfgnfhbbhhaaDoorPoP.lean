/-
  laws.posTokens at places and ends. Conditions: in the statements.
-/
import Derived.Test.YtkcpfgnfhbbhhaaDoorPoI
set_option linter.unusedVariables false
set_option linter.unusedSimpArgs false
namespace Go.Proofs.YtkcpfgnfhbbhhaaDoor.po
open Go.RowKit

set_option maxHeartbeats 4000000 in
set_option maxRecDepth 100000 in
theorem tok_pos {w : World} {a : PT} {p : Option Addr} {cap : Nat} (h : TAsk w [a] p) (hl : (toks a).length ≤ 3000) : Calls Tryd.prog 8 #[.agg #[.string ⟨#[112, 111, 115]⟩, .string ⟨#[]⟩, .int .i64 0, .slice p 1 cap]] w (TokOut (.mk kPos [] 0 [a]) w) := by
  have hw : Below w.heap.size w (w.alloc (.cells #[.string ⟨#[112, 111, 115]⟩, .string ⟨#[]⟩, .int .i64 0, .slice p 1 cap] 24)) := below_alloc w _
  obtain ⟨b0, o0, c0, c1, c2, c3, hp0, hq0, hc0⟩ := h.call hw 0 (by simp)
  subst hp0
  have HQ0 : Hid (∀ W, Below (w.alloc (.cells #[.string ⟨#[112, 111, 115]⟩, .string ⟨#[]⟩, .int .i64 0, .slice (some ⟨b0, o0, none⟩) 1 cap] 24)).heap.size (w.alloc (.cells #[.string ⟨#[112, 111, 115]⟩, .string ⟨#[]⟩, .int .i64 0, .slice (some ⟨b0, o0, none⟩) 1 cap] 24)) W → W.cell? ⟨b0, o0, none⟩ = some c0 ∧ W.cell? ⟨b0, o0 + 1, none⟩ = some c1 ∧ W.cell? ⟨b0, o0 + 2, none⟩ = some c2 ∧ W.cell? ⟨b0, o0 + 3, none⟩ = some c3) := fun W hW => by simpa using hq0 W hW
  have HC0 : Hid (∀ W, Below (w.alloc (.cells #[.string ⟨#[112, 111, 115]⟩, .string ⟨#[]⟩, .int .i64 0, .slice (some ⟨b0, o0, none⟩) 1 cap] 24)).heap.size (w.alloc (.cells #[.string ⟨#[112, 111, 115]⟩, .string ⟨#[]⟩, .int .i64 0, .slice (some ⟨b0, o0, none⟩) 1 cap] 24)) W → Calls Tryd.prog 8 #[.agg #[c0, c1, c2, c3]] W (TokOut a W)) := fun W hW => by simpa using hc0 W hW
  obtain ⟨w1, hw1⟩ : ∃ w1, w1 = w.alloc (.cells #[.string ⟨#[112, 111, 115]⟩, .string ⟨#[]⟩, .int .i64 0, .slice (some ⟨b0, o0, none⟩) 1 cap] 24) := ⟨_, rfl⟩
  rw [← hw1] at hw HQ0 HC0
  have HW1 := Lib.hid hw1
  have HW := Lib.hid hw
  have hbx : obj w1 w.heap.size #[.string ⟨#[112, 111, 115]⟩, .string ⟨#[]⟩, .int .i64 0, .slice (some ⟨b0, o0, none⟩) 1 cap] 24 := by rw [hw1]; exact heap_alloc_new w _
  have HBX := Lib.hid hbx
  clear hw1 hw hbx h hq0 hc0
  have HSF : Hid (∀ w', Below w1.heap.size w1 w' → w'.cell? ⟨w.heap.size, 3, none⟩ = some (.slice (some ⟨b0, o0, none⟩) 1 cap) ∧ w'.cell? ⟨w.heap.size, 0, none⟩ = some (.string ⟨#[112, 111, 115]⟩) ∧ w'.cell? ⟨b0, o0, none⟩ = some c0 ∧ w'.cell? ⟨b0, o0 + 1, none⟩ = some c1 ∧ w'.cell? ⟨b0, o0 + 2, none⟩ = some c2 ∧ w'.cell? ⟨b0, o0 + 3, none⟩ = some c3 ∧ Hid (Below w1.heap.size w1 w')) := fun w' hb => by
    obtain ⟨x0, x1, x2, x3⟩ := HQ0.out w' hb
    exact ⟨(hb.cell (p := ⟨w.heap.size, 3, none⟩) (lt_of_heap HBX.out)).trans (cells_of_heap HBX.out 3), (hb.cell (p := ⟨w.heap.size, 0, none⟩) (lt_of_heap HBX.out)).trans (cells_of_heap HBX.out 0), x0, x1, x2, x3, hb⟩
  have tok1 : True := trivial
  go_enter Tryd.func8, Tryd.ntmps8
  go_wp2_with fail
  rw [← HW1.out]
  have hs0 := HSF.out _ ((Below.refl w1.heap.size w1).drew)
  go_region_held3 (fun w' => w'.cell? ⟨w.heap.size, 3, none⟩ = some (.slice (some ⟨b0, o0, none⟩) 1 cap) ∧ w'.cell? ⟨w.heap.size, 0, none⟩ = some (.string ⟨#[112, 111, 115]⟩) ∧ w'.cell? ⟨b0, o0, none⟩ = some c0 ∧ w'.cell? ⟨b0, o0 + 1, none⟩ = some c1 ∧ w'.cell? ⟨b0, o0 + 2, none⟩ = some c2 ∧ w'.cell? ⟨b0, o0 + 3, none⟩ = some c3 ∧ Hid (Below w1.heap.size w1 w'))
    (first | assumption | exact HSF.out _ HB2.out | exact HSF.out _ (HB2.out.alloc HB2.out.size _) | exact HSF.out _ ((Below.refl w1.heap.size w1).drew.alloc (Nat.le_refl _) _) | exact HSF.out _ HT4.out.below)
    (first
      | (go_at_call 8; have _t := tok1; refine (HC0.out _ (‹_ ∧ _ ∧ _ ∧ _ ∧ _ ∧ _ ∧ Hid (Below _ _ _)›).2.2.2.2.2.2.out).mono ?_; rintro e w2 ⟨g, k, rfl, hr, hb2⟩; have HT2 := Lib.hid (TS.call (‹_ ∧ _ ∧ _ ∧ _ ∧ _ ∧ _ ∧ Hid (Below _ _ _)›).2.2.2.2.2.2.out hr hb2); have HB2 := Lib.hid HT2.out.below; (try have HN2 := Lib.hid ((hb2.block w1.heap.size (by simp)).trans (heap_alloc_new w1.drew _))); clear hr hb2 tok1)
      | (refine step_append_texts rfl (.tmp 25) (.tmp 28) rfl _ (toks a) (by simp [Act.eval, Act.put]) (HT2.out.on (below_alloc w2 _)) [tDot, kPos] ⟨w2.heap.size, 0, none⟩ 2 (by simp [Act.eval, Act.put]) (World.news_of_block (heap_alloc_new w2 _)) (by decide) (by simp; omega) ?_; intro g4 k4 w4 hts hg4 hat; have HT4 := Lib.hid hts; clear hts hg4 hat)
      | (refine step_append_texts rfl (.tmp 25) (.tmp 28) rfl _ (toks a) (by simp [Act.eval, Act.put]) HT2.out [tDot, kPos] ⟨w1.heap.size, 0, none⟩ 2 (by simp [Act.eval, Act.put]) (World.news_of_block HN2.out) (by decide) (by simp; omega) ?_; intro g4 k4 w4 hts hg4 hat; have HT4 := Lib.hid hts; clear hts hg4 hat))
  all_goals go_wp2_with fail
  all_goals go_ret
  all_goals exact tok_end HW.out (toks_pos (.inl rfl) a) (by simp) HT4.out
set_option maxHeartbeats 4000000 in
set_option maxRecDepth 100000 in
theorem tok_fin {w : World} {a : PT} {p : Option Addr} {cap : Nat} (h : TAsk w [a] p) (hl : (toks a).length ≤ 3000) : Calls Tryd.prog 8 #[.agg #[.string ⟨#[101, 110, 100]⟩, .string ⟨#[]⟩, .int .i64 0, .slice p 1 cap]] w (TokOut (.mk kEnd [] 0 [a]) w) := by
  have hw : Below w.heap.size w (w.alloc (.cells #[.string ⟨#[101, 110, 100]⟩, .string ⟨#[]⟩, .int .i64 0, .slice p 1 cap] 24)) := below_alloc w _
  obtain ⟨b0, o0, c0, c1, c2, c3, hp0, hq0, hc0⟩ := h.call hw 0 (by simp)
  subst hp0
  have HQ0 : Hid (∀ W, Below (w.alloc (.cells #[.string ⟨#[101, 110, 100]⟩, .string ⟨#[]⟩, .int .i64 0, .slice (some ⟨b0, o0, none⟩) 1 cap] 24)).heap.size (w.alloc (.cells #[.string ⟨#[101, 110, 100]⟩, .string ⟨#[]⟩, .int .i64 0, .slice (some ⟨b0, o0, none⟩) 1 cap] 24)) W → W.cell? ⟨b0, o0, none⟩ = some c0 ∧ W.cell? ⟨b0, o0 + 1, none⟩ = some c1 ∧ W.cell? ⟨b0, o0 + 2, none⟩ = some c2 ∧ W.cell? ⟨b0, o0 + 3, none⟩ = some c3) := fun W hW => by simpa using hq0 W hW
  have HC0 : Hid (∀ W, Below (w.alloc (.cells #[.string ⟨#[101, 110, 100]⟩, .string ⟨#[]⟩, .int .i64 0, .slice (some ⟨b0, o0, none⟩) 1 cap] 24)).heap.size (w.alloc (.cells #[.string ⟨#[101, 110, 100]⟩, .string ⟨#[]⟩, .int .i64 0, .slice (some ⟨b0, o0, none⟩) 1 cap] 24)) W → Calls Tryd.prog 8 #[.agg #[c0, c1, c2, c3]] W (TokOut a W)) := fun W hW => by simpa using hc0 W hW
  obtain ⟨w1, hw1⟩ : ∃ w1, w1 = w.alloc (.cells #[.string ⟨#[101, 110, 100]⟩, .string ⟨#[]⟩, .int .i64 0, .slice (some ⟨b0, o0, none⟩) 1 cap] 24) := ⟨_, rfl⟩
  rw [← hw1] at hw HQ0 HC0
  have HW1 := Lib.hid hw1
  have HW := Lib.hid hw
  have hbx : obj w1 w.heap.size #[.string ⟨#[101, 110, 100]⟩, .string ⟨#[]⟩, .int .i64 0, .slice (some ⟨b0, o0, none⟩) 1 cap] 24 := by rw [hw1]; exact heap_alloc_new w _
  have HBX := Lib.hid hbx
  clear hw1 hw hbx h hq0 hc0
  have HSF : Hid (∀ w', Below w1.heap.size w1 w' → w'.cell? ⟨w.heap.size, 3, none⟩ = some (.slice (some ⟨b0, o0, none⟩) 1 cap) ∧ w'.cell? ⟨w.heap.size, 0, none⟩ = some (.string ⟨#[101, 110, 100]⟩) ∧ w'.cell? ⟨b0, o0, none⟩ = some c0 ∧ w'.cell? ⟨b0, o0 + 1, none⟩ = some c1 ∧ w'.cell? ⟨b0, o0 + 2, none⟩ = some c2 ∧ w'.cell? ⟨b0, o0 + 3, none⟩ = some c3 ∧ Hid (Below w1.heap.size w1 w')) := fun w' hb => by
    obtain ⟨x0, x1, x2, x3⟩ := HQ0.out w' hb
    exact ⟨(hb.cell (p := ⟨w.heap.size, 3, none⟩) (lt_of_heap HBX.out)).trans (cells_of_heap HBX.out 3), (hb.cell (p := ⟨w.heap.size, 0, none⟩) (lt_of_heap HBX.out)).trans (cells_of_heap HBX.out 0), x0, x1, x2, x3, hb⟩
  have tok1 : True := trivial
  go_enter Tryd.func8, Tryd.ntmps8
  go_wp2_with fail
  rw [← HW1.out]
  have hs0 := HSF.out _ ((Below.refl w1.heap.size w1).drew)
  go_region_held3 (fun w' => w'.cell? ⟨w.heap.size, 3, none⟩ = some (.slice (some ⟨b0, o0, none⟩) 1 cap) ∧ w'.cell? ⟨w.heap.size, 0, none⟩ = some (.string ⟨#[101, 110, 100]⟩) ∧ w'.cell? ⟨b0, o0, none⟩ = some c0 ∧ w'.cell? ⟨b0, o0 + 1, none⟩ = some c1 ∧ w'.cell? ⟨b0, o0 + 2, none⟩ = some c2 ∧ w'.cell? ⟨b0, o0 + 3, none⟩ = some c3 ∧ Hid (Below w1.heap.size w1 w'))
    (first | assumption | exact HSF.out _ HB2.out | exact HSF.out _ (HB2.out.alloc HB2.out.size _) | exact HSF.out _ ((Below.refl w1.heap.size w1).drew.alloc (Nat.le_refl _) _) | exact HSF.out _ HT4.out.below)
    (first
      | (go_at_call 8; have _t := tok1; refine (HC0.out _ (‹_ ∧ _ ∧ _ ∧ _ ∧ _ ∧ _ ∧ Hid (Below _ _ _)›).2.2.2.2.2.2.out).mono ?_; rintro e w2 ⟨g, k, rfl, hr, hb2⟩; have HT2 := Lib.hid (TS.call (‹_ ∧ _ ∧ _ ∧ _ ∧ _ ∧ _ ∧ Hid (Below _ _ _)›).2.2.2.2.2.2.out hr hb2); have HB2 := Lib.hid HT2.out.below; (try have HN2 := Lib.hid ((hb2.block w1.heap.size (by simp)).trans (heap_alloc_new w1.drew _))); clear hr hb2 tok1)
      | (refine step_append_texts rfl (.tmp 25) (.tmp 28) rfl _ (toks a) (by simp [Act.eval, Act.put]) (HT2.out.on (below_alloc w2 _)) [tDot, kEnd] ⟨w2.heap.size, 0, none⟩ 2 (by simp [Act.eval, Act.put]) (World.news_of_block (heap_alloc_new w2 _)) (by decide) (by simp; omega) ?_; intro g4 k4 w4 hts hg4 hat; have HT4 := Lib.hid hts; clear hts hg4 hat)
      | (refine step_append_texts rfl (.tmp 25) (.tmp 28) rfl _ (toks a) (by simp [Act.eval, Act.put]) HT2.out [tDot, kEnd] ⟨w1.heap.size, 0, none⟩ 2 (by simp [Act.eval, Act.put]) (World.news_of_block HN2.out) (by decide) (by simp; omega) ?_; intro g4 k4 w4 hts hg4 hat; have HT4 := Lib.hid hts; clear hts hg4 hat))
  all_goals go_wp2_with fail
  all_goals go_ret
  all_goals exact tok_end HW.out (toks_pos (.inr rfl) a) (by simp) HT4.out
end Go.Proofs.YtkcpfgnfhbbhhaaDoor.po
