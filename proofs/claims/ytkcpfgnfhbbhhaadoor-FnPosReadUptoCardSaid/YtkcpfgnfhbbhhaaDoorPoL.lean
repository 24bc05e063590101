/-
  laws.posTokens at lengths. Conditions: in the statements.
-/
import Derived.Test.YtkcpfgnfhbbhhaaDoorPoI
set_option linter.unusedVariables false
set_option linter.unusedSimpArgs false
namespace Go.Proofs.YtkcpfgnfhbbhhaaDoor.po
open Go.RowKit

set_option maxHeartbeats 4000000 in
set_option maxRecDepth 100000 in
theorem tok_len {w : World} {a : PT} {p : Option Addr} {cap : Nat} (h : TAsk w [a] p) (hl : (toks a).length ≤ 9000000) : Calls Tryd.prog 8 #[.agg #[.string ⟨#[108, 101, 110]⟩, .string ⟨#[]⟩, .int .i64 0, .slice p 1 cap]] w (TokOut (.mk kLen [] 0 [a]) w) := by
  have hw : Below w.heap.size w (w.alloc (.cells #[.string ⟨#[108, 101, 110]⟩, .string ⟨#[]⟩, .int .i64 0, .slice p 1 cap] 24)) := below_alloc w _
  obtain ⟨b0, o0, c0, c1, c2, c3, hp0, hq0, hc0⟩ := h.call hw 0 (by simp)
  subst hp0
  have HQ0 : Hid (∀ W, Below (w.alloc (.cells #[.string ⟨#[108, 101, 110]⟩, .string ⟨#[]⟩, .int .i64 0, .slice (some ⟨b0, o0, none⟩) 1 cap] 24)).heap.size (w.alloc (.cells #[.string ⟨#[108, 101, 110]⟩, .string ⟨#[]⟩, .int .i64 0, .slice (some ⟨b0, o0, none⟩) 1 cap] 24)) W → W.cell? ⟨b0, o0, none⟩ = some c0 ∧ W.cell? ⟨b0, o0 + 1, none⟩ = some c1 ∧ W.cell? ⟨b0, o0 + 2, none⟩ = some c2 ∧ W.cell? ⟨b0, o0 + 3, none⟩ = some c3) := fun W hW => by simpa using hq0 W hW
  have HC0 : Hid (∀ W, Below (w.alloc (.cells #[.string ⟨#[108, 101, 110]⟩, .string ⟨#[]⟩, .int .i64 0, .slice (some ⟨b0, o0, none⟩) 1 cap] 24)).heap.size (w.alloc (.cells #[.string ⟨#[108, 101, 110]⟩, .string ⟨#[]⟩, .int .i64 0, .slice (some ⟨b0, o0, none⟩) 1 cap] 24)) W → Calls Tryd.prog 8 #[.agg #[c0, c1, c2, c3]] W (TokOut a W)) := fun W hW => by simpa using hc0 W hW
  obtain ⟨w1, hw1⟩ : ∃ w1, w1 = w.alloc (.cells #[.string ⟨#[108, 101, 110]⟩, .string ⟨#[]⟩, .int .i64 0, .slice (some ⟨b0, o0, none⟩) 1 cap] 24) := ⟨_, rfl⟩
  rw [← hw1] at hw HQ0 HC0
  have HW1 := Lib.hid hw1
  have HW := Lib.hid hw
  have hbx : obj w1 w.heap.size #[.string ⟨#[108, 101, 110]⟩, .string ⟨#[]⟩, .int .i64 0, .slice (some ⟨b0, o0, none⟩) 1 cap] 24 := by rw [hw1]; exact heap_alloc_new w _
  have HBX := Lib.hid hbx
  clear hw1 hw hbx h hq0 hc0
  have y : ∀ o, (w1.alloc o).cell? ⟨b0, o0, none⟩ = some c0 ∧ (w1.alloc o).cell? ⟨b0, o0 + 1, none⟩ = some c1 ∧ (w1.alloc o).cell? ⟨b0, o0 + 2, none⟩ = some c2 ∧ (w1.alloc o).cell? ⟨b0, o0 + 3, none⟩ = some c3 := fun o => HQ0.out _ (below_alloc w1 o)
  have y0 := fun o => (y o).1
  have y1 := fun o => (y o).2.1
  have y2 := fun o => (y o).2.2.1
  have y3 := fun o => (y o).2.2.2
  have z3 : ∀ o, (w1.alloc o).cell? ⟨w.heap.size, 3, none⟩ = some (.slice (some ⟨b0, o0, none⟩) 1 cap) := fun o => (cell_alloc_old' w1 o (lt_of_heap HBX.out) 3).trans (cells_of_heap HBX.out 3)
  rw [HW1.out] at y0 y1 y2 y3 z3
  clear y
  go_enter Tryd.func8, Tryd.ntmps8
  go_wp2_with fail
  rw [← HW1.out]
  have hz1 : w1.heap.size = w.heap.size + 1 := by rw [HW1.out]; simp
  have hn := TS.new (Below.refl w1.heap.size w1) [kLen, tLP] (by unfold maxLen; simp)
  rw [hz1] at hn
  have HN := Lib.hid hn
  clear hn hz1
  refine (HC0.out _ (below_alloc w1 _)).mono ?_
  rintro e w2 ⟨g, c, rfl, hr, hb2⟩
  have HB2 := Lib.hid hb2
  have HR2 := Lib.hid hr
  have HT2 := Lib.hid (HN.out.on hb2)
  clear hr hb2
  go_wp2_with (first
    | (at_builtin; have _t := HN; refine wpList_append_texts rfl _ _ rfl _ [kLen, tLP] rfl HT2.out (toks a) ⟨g, 0, none⟩ c rfl (row_news HR2.out) (by simp; omega) ?_; intro v' w3 hts hg3 hn3; have HT3 := Lib.hid hts; clear hts hg3 hn3 HN)
    | (at_builtin; refine wpList_append_texts rfl _ _ rfl _ ([kLen, tLP] ++ toks a) rfl (HT3.out.on (below_alloc w3 _)) [tRP] ⟨w3.heap.size, 0, none⟩ 1 rfl (World.news_of_block (heap_alloc_new w3 _)) (by simp; omega) ?_; intro v'' w4 hts hg3 hn3; have HT4 := Lib.hid hts; clear hts hg3 hn3))
  obtain ⟨g4, c4, rfl⟩ := HT4.out.form (by simp)
  go_ret
  exact tok_end HW.out (by rw [toks_len]; simp) rfl HT4.out
end Go.Proofs.YtkcpfgnfhbbhhaaDoor.po
