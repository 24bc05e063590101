/-
  laws.posTokens at choices of numbers. Conditions: in the statements.
-/
import Derived.Test.YtkcpfgnfhbbhhaaDoorPoI
set_option linter.unusedVariables false
set_option linter.unusedSimpArgs false
namespace Go.Proofs.YtkcpfgnfhbbhhaaDoor.po
open Go.RowKit

set_option maxHeartbeats 4000000 in
set_option maxRecDepth 100000 in
theorem tok_ite {w : World} {a c d : PT} {p : Option Addr} {cap : Nat} (h : TAsk w [a, c, d] p) (ha : (toks a).length ≤ 2000000) (hc : (toks c).length ≤ 2000000) (hd : (toks d).length ≤ 2000000) : Calls Tryd.prog 8 #[.agg #[.string ⟨#[105, 102]⟩, .string ⟨#[]⟩, .int .i64 0, .slice p 3 cap]] w (TokOut (.mk kIf [] 0 [a, c, d]) w) := by
  have hw : Below w.heap.size w (w.alloc (.cells #[.string ⟨#[105, 102]⟩, .string ⟨#[]⟩, .int .i64 0, .slice p 3 cap] 24)) := below_alloc w _
  obtain ⟨b0, o0, c0, c1, c2, c3, hp0, hq0, hc0⟩ := h.call hw 0 (by simp)
  subst hp0
  have HQ0 : Hid (∀ W, Below (w.alloc (.cells #[.string ⟨#[105, 102]⟩, .string ⟨#[]⟩, .int .i64 0, .slice (some ⟨b0, o0, none⟩) 3 cap] 24)).heap.size (w.alloc (.cells #[.string ⟨#[105, 102]⟩, .string ⟨#[]⟩, .int .i64 0, .slice (some ⟨b0, o0, none⟩) 3 cap] 24)) W → W.cell? ⟨b0, o0, none⟩ = some c0 ∧ W.cell? ⟨b0, o0 + 1, none⟩ = some c1 ∧ W.cell? ⟨b0, o0 + 2, none⟩ = some c2 ∧ W.cell? ⟨b0, o0 + 3, none⟩ = some c3) := fun W hW => by simpa using hq0 W hW
  have HC0 : Hid (∀ W, Below (w.alloc (.cells #[.string ⟨#[105, 102]⟩, .string ⟨#[]⟩, .int .i64 0, .slice (some ⟨b0, o0, none⟩) 3 cap] 24)).heap.size (w.alloc (.cells #[.string ⟨#[105, 102]⟩, .string ⟨#[]⟩, .int .i64 0, .slice (some ⟨b0, o0, none⟩) 3 cap] 24)) W → Calls Tryd.prog 8 #[.agg #[c0, c1, c2, c3]] W (TokOut a W)) := fun W hW => by simpa using hc0 W hW
  obtain ⟨b1, o1, d0, d1, d2, d3, hp1, hq1, hc1⟩ := h.call hw 1 (by simp)
  obtain ⟨rfl, rfl⟩ : b0 = b1 ∧ o0 = o1 := by simpa using hp1
  have HQ1 : Hid (∀ W, Below (w.alloc (.cells #[.string ⟨#[105, 102]⟩, .string ⟨#[]⟩, .int .i64 0, .slice (some ⟨b0, o0, none⟩) 3 cap] 24)).heap.size (w.alloc (.cells #[.string ⟨#[105, 102]⟩, .string ⟨#[]⟩, .int .i64 0, .slice (some ⟨b0, o0, none⟩) 3 cap] 24)) W → W.cell? ⟨b0, o0 + 4, none⟩ = some d0 ∧ W.cell? ⟨b0, o0 + 5, none⟩ = some d1 ∧ W.cell? ⟨b0, o0 + 6, none⟩ = some d2 ∧ W.cell? ⟨b0, o0 + 7, none⟩ = some d3) := fun W hW => by simpa using hq1 W hW
  have HC1 : Hid (∀ W, Below (w.alloc (.cells #[.string ⟨#[105, 102]⟩, .string ⟨#[]⟩, .int .i64 0, .slice (some ⟨b0, o0, none⟩) 3 cap] 24)).heap.size (w.alloc (.cells #[.string ⟨#[105, 102]⟩, .string ⟨#[]⟩, .int .i64 0, .slice (some ⟨b0, o0, none⟩) 3 cap] 24)) W → Calls Tryd.prog 8 #[.agg #[d0, d1, d2, d3]] W (TokOut c W)) := fun W hW => by simpa using hc1 W hW
  obtain ⟨b2, o2, f0, f1, f2, f3, hp2, hq2, hc2⟩ := h.call hw 2 (by simp)
  obtain ⟨rfl, rfl⟩ : b0 = b2 ∧ o0 = o2 := by simpa using hp2
  have HQ2 : Hid (∀ W, Below (w.alloc (.cells #[.string ⟨#[105, 102]⟩, .string ⟨#[]⟩, .int .i64 0, .slice (some ⟨b0, o0, none⟩) 3 cap] 24)).heap.size (w.alloc (.cells #[.string ⟨#[105, 102]⟩, .string ⟨#[]⟩, .int .i64 0, .slice (some ⟨b0, o0, none⟩) 3 cap] 24)) W → W.cell? ⟨b0, o0 + 8, none⟩ = some f0 ∧ W.cell? ⟨b0, o0 + 9, none⟩ = some f1 ∧ W.cell? ⟨b0, o0 + 10, none⟩ = some f2 ∧ W.cell? ⟨b0, o0 + 11, none⟩ = some f3) := fun W hW => by simpa using hq2 W hW
  have HC2 : Hid (∀ W, Below (w.alloc (.cells #[.string ⟨#[105, 102]⟩, .string ⟨#[]⟩, .int .i64 0, .slice (some ⟨b0, o0, none⟩) 3 cap] 24)).heap.size (w.alloc (.cells #[.string ⟨#[105, 102]⟩, .string ⟨#[]⟩, .int .i64 0, .slice (some ⟨b0, o0, none⟩) 3 cap] 24)) W → Calls Tryd.prog 8 #[.agg #[f0, f1, f2, f3]] W (TokOut d W)) := fun W hW => by simpa using hc2 W hW
  obtain ⟨w1, hw1⟩ : ∃ w1, w1 = w.alloc (.cells #[.string ⟨#[105, 102]⟩, .string ⟨#[]⟩, .int .i64 0, .slice (some ⟨b0, o0, none⟩) 3 cap] 24) := ⟨_, rfl⟩
  rw [← hw1] at hw HQ0 HC0 HQ1 HC1 HQ2 HC2
  have HW1 := Lib.hid hw1
  have HW := Lib.hid hw
  have hbx : obj w1 w.heap.size #[.string ⟨#[105, 102]⟩, .string ⟨#[]⟩, .int .i64 0, .slice (some ⟨b0, o0, none⟩) 3 cap] 24 := by rw [hw1]; exact heap_alloc_new w _
  have HBX := Lib.hid hbx
  clear hw1 hw hbx h hq0 hc0 hq1 hc1 hq2 hc2
  have y : ∀ o, (w1.alloc o).cell? ⟨b0, o0, none⟩ = some c0 ∧ (w1.alloc o).cell? ⟨b0, o0 + 1, none⟩ = some c1 ∧ (w1.alloc o).cell? ⟨b0, o0 + 2, none⟩ = some c2 ∧ (w1.alloc o).cell? ⟨b0, o0 + 3, none⟩ = some c3 := fun o => HQ0.out _ (below_alloc w1 o)
  have y0 := fun o => (y o).1
  have y1 := fun o => (y o).2.1
  have y2 := fun o => (y o).2.2.1
  have y3 := fun o => (y o).2.2.2
  have z3 : ∀ o, (w1.alloc o).cell? ⟨w.heap.size, 3, none⟩ = some (.slice (some ⟨b0, o0, none⟩) 3 cap) := fun o => (cell_alloc_old' w1 o (lt_of_heap HBX.out) 3).trans (cells_of_heap HBX.out 3)
  have HZ : Hid (∀ W, Below w1.heap.size w1 W → W.cell? ⟨w.heap.size, 3, none⟩ = some (.slice (some ⟨b0, o0, none⟩) 3 cap)) := fun W hW => (hW.cell (p := ⟨w.heap.size, 3, none⟩) (lt_of_heap HBX.out)).trans (cells_of_heap HBX.out 3)
  rw [HW1.out] at y0 y1 y2 y3 z3
  clear y
  go_enter Tryd.func8, Tryd.ntmps8
  go_wp2_with fail
  rw [← HW1.out]
  have hz1 : w1.heap.size = w.heap.size + 1 := by rw [HW1.out]; simp
  have hn := TS.new (Below.refl w1.heap.size w1) [tLP] (by unfold maxLen; simp)
  rw [hz1] at hn
  have HN := Lib.hid hn
  clear hn hz1
  refine (HC0.out _ (below_alloc w1 _)).mono ?_
  rintro e w2 ⟨g, k, rfl, hr, hb2⟩
  have HR2 := Lib.hid hr
  have HT2 := Lib.hid (HN.out.on hb2)
  have tok1 : True := trivial
  have tok2 : True := trivial
  clear hr hb2
  go_wp2_with (first
    | (at_builtin; have _t := tok1; refine wpList_append_texts rfl _ _ rfl _ [tLP] rfl HT2.out (toks a) ⟨g, 0, none⟩ k rfl (row_news HR2.out) (by simp; omega) ?_; intro v3 w3 hts hg3 hn3; have HT3 := Lib.hid hts; clear hts hg3 hn3 tok1)
    | (at_builtin; have _t := tok2; refine wpList_append_texts rfl _ _ rfl _ ([tLP] ++ toks a) rfl (HT3.out.on (below_alloc w3 _)) [tQ] ⟨w3.heap.size, 0, none⟩ 1 rfl (World.news_of_block (heap_alloc_new w3 _)) (by simp; omega) ?_; intro v4 w4 hts hg3 hn3; have HT4 := Lib.hid hts; obtain ⟨x10, x11, x12, x13⟩ := HQ1.out _ hts.below; have z4 := HZ.out _ hts.below; clear hts hg3 hn3 tok2))
  refine (HC1.out _ HT4.out.below).mono ?_
  rintro e w5 ⟨g5, k5, rfl, hr, hb2⟩
  have HR5 := Lib.hid hr
  have HT5 := Lib.hid (HT4.out.on hb2)
  have tok1 : True := trivial
  have tok2 : True := trivial
  clear hr hb2
  go_wp2_with (first
    | (at_builtin; have _t := tok1; refine wpList_append_texts rfl _ _ rfl _ ([tLP] ++ toks a ++ [tQ]) rfl HT5.out (toks c) ⟨g5, 0, none⟩ k5 rfl (row_news HR5.out) (by simp; omega) ?_; intro v6 w6 hts hg3 hn3; have HT6 := Lib.hid hts; clear hts hg3 hn3 tok1)
    | (at_builtin; have _t := tok2; refine wpList_append_texts rfl _ _ rfl _ ([tLP] ++ toks a ++ [tQ] ++ toks c) rfl (HT6.out.on (below_alloc w6 _)) [tCol] ⟨w6.heap.size, 0, none⟩ 1 rfl (World.news_of_block (heap_alloc_new w6 _)) (by simp; omega) ?_; intro v7 w7 hts hg3 hn3; have HT7 := Lib.hid hts; obtain ⟨x20, x21, x22, x23⟩ := HQ2.out _ hts.below; have z7 := HZ.out _ hts.below; clear hts hg3 hn3 tok2))
  refine (HC2.out _ HT7.out.below).mono ?_
  rintro e w8 ⟨g8, k8, rfl, hr, hb2⟩
  have HR8 := Lib.hid hr
  have HT8 := Lib.hid (HT7.out.on hb2)
  have tok1 : True := trivial
  have tok2 : True := trivial
  clear hr hb2
  go_wp2_with (first
    | (at_builtin; have _t := tok1; refine wpList_append_texts rfl _ _ rfl _ ([tLP] ++ toks a ++ [tQ] ++ toks c ++ [tCol]) rfl HT8.out (toks d) ⟨g8, 0, none⟩ k8 rfl (row_news HR8.out) (by simp; omega) ?_; intro v9 w9 hts hg3 hn3; have HT9 := Lib.hid hts; clear hts hg3 hn3 tok1)
    | (at_builtin; have _t := tok2; refine wpList_append_texts rfl _ _ rfl _ ([tLP] ++ toks a ++ [tQ] ++ toks c ++ [tCol] ++ toks d) rfl (HT9.out.on (below_alloc w9 _)) [tRP] ⟨w9.heap.size, 0, none⟩ 1 rfl (World.news_of_block (heap_alloc_new w9 _)) (by simp; omega) ?_; intro v10 w10 hts hg3 hn3; have HT10 := Lib.hid hts; clear hts hg3 hn3 tok2))
  obtain ⟨g10, k10, rfl⟩ := HT10.out.form (by simp)
  go_ret
  exact tok_end HW.out (by rw [toks_if]; simp) rfl HT10.out
end Go.Proofs.YtkcpfgnfhbbhhaaDoor.po
