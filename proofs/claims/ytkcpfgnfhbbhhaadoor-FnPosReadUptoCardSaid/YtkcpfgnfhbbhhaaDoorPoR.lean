/-
  laws.posTokens at elements. Conditions: in the statements.
-/
import Derived.Test.YtkcpfgnfhbbhhaaDoorPoI
import Derived.Test.YtkcpfgnfhbbhhaaDoorPoE
set_option linter.unusedVariables false
set_option linter.unusedSimpArgs false
namespace Go.Proofs.YtkcpfgnfhbbhhaaDoor.po
open Go.RowKit

theorem second_newD (w : World) (o : Obj) (cs : Array Value) (t : TypeId) : obj ((w.alloc o).alloc (.cells cs t)).drew (w.heap.size + 1) cs t := second_new w o cs t
/-- A block beside the row: it holds cs. -/
def NW (W : World) (v : Value) (s : Nat) (cs : Array Value) : Prop := obj W s cs 9 ∧ v.ownBlock ≠ some s
theorem NW.out1 {W : World} {v : Value} {s : Nat} {cs : Array Value} (h : NW W v s cs) : W.heap[s]? = some (.cells cs 9 (0, 0)) := h.1
theorem NW.new {w1 W : World} {v : Value} {l : List Bs} {cs : Array Value} (h : TS w1 W v l) : NW (W.alloc (.cells cs 9)) v W.heap.size cs :=
  ⟨heap_alloc_new W _, fun e => by have := (own_lt4 h.row _ e).2; omega⟩
theorem NW.new2 {w1 W : World} {v : Value} {l : List Bs} {cs : Array Value} {o : Obj} (h : TS w1 W v l) : NW ((W.alloc o).alloc (.cells cs 9)) v (W.heap.size + 1) cs := by
  have h1 := NW.new (cs := cs) (h.on (below_alloc W o))
  have e : (W.alloc o).heap.size = W.heap.size + 1 := by simp
  rwa [e] at h1
theorem NW.old {W : World} {v : Value} {s : Nat} {cs : Array Value} {o : Obj} (h : NW W v s cs) : NW (W.alloc o) v s cs :=
  ⟨(heap_alloc_old W o (lt_of_heap h.1)).trans h.1, h.2⟩
theorem NW.call0 {u W : World} {v : Value} {s n : Nat} {cs : Array Value} {xs : List Value} (hb : Below u.heap.size u W) (hr : W.ownsRow u.heap.size 9 1 v n xs) (h : obj u s cs 9) : NW W v s cs :=
  ⟨(hb.block s (lt_of_heap h)).trans h, fun e => by have := (own_lt4 hr _ e).1; have := lt_of_heap h; omega⟩
theorem NW.call {u W : World} {v : Value} {s : Nat} {cs : Array Value} (hb : Below u.heap.size u W) (h : NW u v s cs) : NW W v s cs := ⟨(hb.block s (lt_of_heap h.1)).trans h.1, h.2⟩
theorem NW.app {u W : World} {v : Value} {s g n c : Nat} {cs : Array Value} (h : NW u v s cs) (hg : u.grownBy W v.ownBlock) (hat : v.ownBlock = some g ∨ g = u.heap.size) : NW W (.slice (some ⟨g, 0, none⟩) n c) s cs :=
  ⟨(hg.block s (lt_of_heap h.1) (fun e => h.2 e.symm)).trans h.1, fun e => by
    have e2 : g = s := by simpa [Value.ownBlock] using e
    subst e2
    rcases hat with hat | hat
    · exact h.2 hat
    · have := lt_of_heap h.1
      omega⟩
set_option maxHeartbeats 4000000 in
set_option maxRecDepth 100000 in
theorem tok_index {w : World} {a c : PT} {p : Option Addr} {cap : Nat} (h : TAsk w [a, c] p) (hl : (toks a).length ≤ 3000) (hl2 : (toks c).length ≤ 3000) (hp2 : 0 < (toks c).length) : Calls Tryd.prog 8 #[.agg #[.string ⟨#[105, 110, 100, 101, 120]⟩, .string ⟨#[]⟩, .int .i64 0, .slice p 2 cap]] w (TokOut (.mk kIndex [] 0 [a, c]) w) := by
  have hw : Below w.heap.size w (w.alloc (.cells #[.string ⟨#[105, 110, 100, 101, 120]⟩, .string ⟨#[]⟩, .int .i64 0, .slice p 2 cap] 24)) := below_alloc w _
  obtain ⟨b0, o0, c0, c1, c2, c3, hp0, hq0, hc0⟩ := h.call hw 0 (by simp)
  subst hp0
  have HQ0 : Hid (∀ W, Below (w.alloc (.cells #[.string ⟨#[105, 110, 100, 101, 120]⟩, .string ⟨#[]⟩, .int .i64 0, .slice (some ⟨b0, o0, none⟩) 2 cap] 24)).heap.size (w.alloc (.cells #[.string ⟨#[105, 110, 100, 101, 120]⟩, .string ⟨#[]⟩, .int .i64 0, .slice (some ⟨b0, o0, none⟩) 2 cap] 24)) W → W.cell? ⟨b0, o0, none⟩ = some c0 ∧ W.cell? ⟨b0, o0 + 1, none⟩ = some c1 ∧ W.cell? ⟨b0, o0 + 2, none⟩ = some c2 ∧ W.cell? ⟨b0, o0 + 3, none⟩ = some c3) := fun W hW => by simpa using hq0 W hW
  have HC0 : Hid (∀ W, Below (w.alloc (.cells #[.string ⟨#[105, 110, 100, 101, 120]⟩, .string ⟨#[]⟩, .int .i64 0, .slice (some ⟨b0, o0, none⟩) 2 cap] 24)).heap.size (w.alloc (.cells #[.string ⟨#[105, 110, 100, 101, 120]⟩, .string ⟨#[]⟩, .int .i64 0, .slice (some ⟨b0, o0, none⟩) 2 cap] 24)) W → Calls Tryd.prog 8 #[.agg #[c0, c1, c2, c3]] W (TokOut a W)) := fun W hW => by simpa using hc0 W hW
  obtain ⟨b1, o1, d0, d1, d2, d3, hp1, hq1, hc1⟩ := h.call hw 1 (by simp)
  obtain ⟨rfl, rfl⟩ : b0 = b1 ∧ o0 = o1 := by simpa using hp1
  have HQ1 : Hid (∀ W, Below (w.alloc (.cells #[.string ⟨#[105, 110, 100, 101, 120]⟩, .string ⟨#[]⟩, .int .i64 0, .slice (some ⟨b0, o0, none⟩) 2 cap] 24)).heap.size (w.alloc (.cells #[.string ⟨#[105, 110, 100, 101, 120]⟩, .string ⟨#[]⟩, .int .i64 0, .slice (some ⟨b0, o0, none⟩) 2 cap] 24)) W → W.cell? ⟨b0, o0 + 4, none⟩ = some d0 ∧ W.cell? ⟨b0, o0 + 5, none⟩ = some d1 ∧ W.cell? ⟨b0, o0 + 6, none⟩ = some d2 ∧ W.cell? ⟨b0, o0 + 7, none⟩ = some d3) := fun W hW => by simpa using hq1 W hW
  have HC1 : Hid (∀ W, Below (w.alloc (.cells #[.string ⟨#[105, 110, 100, 101, 120]⟩, .string ⟨#[]⟩, .int .i64 0, .slice (some ⟨b0, o0, none⟩) 2 cap] 24)).heap.size (w.alloc (.cells #[.string ⟨#[105, 110, 100, 101, 120]⟩, .string ⟨#[]⟩, .int .i64 0, .slice (some ⟨b0, o0, none⟩) 2 cap] 24)) W → Calls Tryd.prog 8 #[.agg #[d0, d1, d2, d3]] W (TokOut c W)) := fun W hW => by simpa using hc1 W hW
  obtain ⟨w1, hw1⟩ : ∃ w1, w1 = w.alloc (.cells #[.string ⟨#[105, 110, 100, 101, 120]⟩, .string ⟨#[]⟩, .int .i64 0, .slice (some ⟨b0, o0, none⟩) 2 cap] 24) := ⟨_, rfl⟩
  rw [← hw1] at hw HQ0 HC0 HQ1 HC1
  have HW1 := Lib.hid hw1
  have HW := Lib.hid hw
  have hbx : obj w1 w.heap.size #[.string ⟨#[105, 110, 100, 101, 120]⟩, .string ⟨#[]⟩, .int .i64 0, .slice (some ⟨b0, o0, none⟩) 2 cap] 24 := by rw [hw1]; exact heap_alloc_new w _
  have HBX := Lib.hid hbx
  clear hw1 hw hbx h hq0 hc0 hq1 hc1
  have HSF : Hid (∀ w', Below w1.heap.size w1 w' → w'.cell? ⟨w.heap.size, 3, none⟩ = some (.slice (some ⟨b0, o0, none⟩) 2 cap) ∧ w'.cell? ⟨b0, o0, none⟩ = some c0 ∧ w'.cell? ⟨b0, o0 + 1, none⟩ = some c1 ∧ w'.cell? ⟨b0, o0 + 2, none⟩ = some c2 ∧ w'.cell? ⟨b0, o0 + 3, none⟩ = some c3 ∧ w'.cell? ⟨b0, o0 + 4, none⟩ = some d0 ∧ w'.cell? ⟨b0, o0 + 5, none⟩ = some d1 ∧ w'.cell? ⟨b0, o0 + 6, none⟩ = some d2 ∧ w'.cell? ⟨b0, o0 + 7, none⟩ = some d3 ∧ Hid (Below w1.heap.size w1 w')) := fun w' hb => by
    obtain ⟨x0, x1, x2, x3⟩ := HQ0.out w' hb
    obtain ⟨y0, y1, y2, y3⟩ := HQ1.out w' hb
    exact ⟨(hb.cell (p := ⟨w.heap.size, 3, none⟩) (lt_of_heap HBX.out)).trans (cells_of_heap HBX.out 3), x0, x1, x2, x3, y0, y1, y2, y3, hb⟩
  have tok1 : True := trivial
  have HP2 := Lib.hid hp2
  clear hp2
  go_enter Tryd.func8, Tryd.ntmps8
  go_wp2_with fail
  rw [← HW1.out]
  have hs0 := HSF.out _ ((Below.refl w1.heap.size w1).drew)
  go_region_held3 (fun w' => w'.cell? ⟨w.heap.size, 3, none⟩ = some (.slice (some ⟨b0, o0, none⟩) 2 cap) ∧ w'.cell? ⟨b0, o0, none⟩ = some c0 ∧ w'.cell? ⟨b0, o0 + 1, none⟩ = some c1 ∧ w'.cell? ⟨b0, o0 + 2, none⟩ = some c2 ∧ w'.cell? ⟨b0, o0 + 3, none⟩ = some c3 ∧ w'.cell? ⟨b0, o0 + 4, none⟩ = some d0 ∧ w'.cell? ⟨b0, o0 + 5, none⟩ = some d1 ∧ w'.cell? ⟨b0, o0 + 6, none⟩ = some d2 ∧ w'.cell? ⟨b0, o0 + 7, none⟩ = some d3 ∧ Hid (Below w1.heap.size w1 w'))
    (first | assumption | exact HSF.out _ HT7.out.below | exact HSF.out _ HT6.out.below | exact HSF.out _ HT5.out.below | exact HSF.out _ HT4.out.below | exact HSF.out _ HT2.out.below | exact HSF.out _ (HT6.out.on (below_alloc _ _)).below | exact HSF.out _ (HT5.out.on (below_alloc _ _)).below | exact HSF.out _ (HT4.out.on (below_alloc _ _)).below | exact HSF.out _ (HT2.out.on (below_alloc _ _)).below | exact HSF.out _ ((HT2.out.on (below_alloc _ _)).on (below_alloc _ _)).below | exact HSF.out _ ((Below.refl w1.heap.size w1).drew.alloc (Nat.le_refl _) _) | exact HSF.out _ (((Below.refl w1.heap.size w1).drew.alloc (Nat.le_refl _) _).alloc (by simp) _))
    (first
      | (go_at_call 8; have _t := tok1; refine (HC0.out _ (‹_ ∧ _ ∧ _ ∧ _ ∧ _ ∧ _ ∧ _ ∧ _ ∧ _ ∧ Hid (Below _ _ _)›).2.2.2.2.2.2.2.2.2.out).mono ?_; rintro e w2 ⟨g, k, rfl, hr, hb2⟩; have HT2 := Lib.hid (TS.call (‹_ ∧ _ ∧ _ ∧ _ ∧ _ ∧ _ ∧ _ ∧ _ ∧ _ ∧ Hid (Below _ _ _)›).2.2.2.2.2.2.2.2.2.out hr hb2); (try have HNA := Lib.hid (NW.call0 (cs := #[.string ⟨#[91]⟩]) hb2 hr (by first | exact second_newD _ _ _ _ | exact second_new _ _ _ _ | exact heap_alloc_new _ _ | exact (heap_alloc_old _ _ (by simp)).trans (heap_alloc_new _ _)))); (try have HNB := Lib.hid (NW.call0 (cs := #[.string ⟨#[93]⟩]) hb2 hr (by first | exact second_newD _ _ _ _ | exact second_new _ _ _ _ | exact heap_alloc_new _ _ | exact (heap_alloc_old _ _ (by simp)).trans (heap_alloc_new _ _)))); clear hr hb2 tok1)
      | (go_at_call 8; have _t := HT4; refine (HC1.out _ (‹_ ∧ _ ∧ _ ∧ _ ∧ _ ∧ _ ∧ _ ∧ _ ∧ _ ∧ Hid (Below _ _ _)›).2.2.2.2.2.2.2.2.2.out).mono ?_; rintro e w5 ⟨g5, k5, rfl, hr, hb2⟩; have HR5 := Lib.hid hr; have HT5 := Lib.hid (TS.on (w1 := w1) (by first | exact HT4.out | exact HT4.out.on (below_alloc _ _) | exact (HT4.out.on (below_alloc _ _)).on (below_alloc _ _)) hb2); (try have HNB := Lib.hid (NW.call (cs := #[.string ⟨#[93]⟩]) hb2 (by first | exact HNB.out | exact NW.new HT4.out | exact HNB.out.old | exact (NW.new HT4.out).old | exact NW.new2 HT4.out))); clear hr hb2)
      | (refine step_append_textsN ((toks a).length + 1) rfl (.tmp 51) (.tmp 52) rfl _ (toks a) rfl (by first | exact HT2.out | exact HT2.out.on (below_alloc _ _) | exact (HT2.out.on (below_alloc _ _)).on (below_alloc _ _)) [tLB] (by simp <;> omega) _ _ rfl (World.news_of_block (NW.out1 (cs := #[.string ⟨#[91]⟩]) (by first | exact HNA.out | exact NW.new HT2.out | exact HNA.out.old | exact (NW.new HT2.out).old | exact NW.new2 HT2.out))) (by decide) (by simp; omega) ?_; intro g4 k4 w4 hts hg4 hat; have HT4 := Lib.hid hts; (try have HNB := Lib.hid (NW.app (n := (toks a).length + 1) (c := k4) (cs := #[.string ⟨#[93]⟩]) (by first | exact HNB.out | exact NW.new HT2.out | exact HNB.out.old | exact (NW.new HT2.out).old | exact NW.new2 HT2.out) hg4 hat)); clear hts hg4 hat)
      | (refine step_append_textsN ((toks a).length + 1 + (toks c).length) rfl (.tmp 53) (.tmp 58) rfl _ (toks a ++ [tLB]) rfl (by first | exact HT5.out | exact HT5.out.on (below_alloc _ _) | exact (HT5.out.on (below_alloc _ _)).on (below_alloc _ _)) (toks c) (by simp <;> omega) _ _ rfl (row_news (by first | exact HR5.out | exact own_below HR5.out (below_alloc _ _))) HP2.out (by simp; omega) ?_; intro g6 k6 w6 hts hg4 hat; have HT6 := Lib.hid hts; (try have HNB := Lib.hid (NW.app (n := (toks a).length + 1 + (toks c).length) (c := k6) (cs := #[.string ⟨#[93]⟩]) (by first | exact HNB.out | exact NW.new HT5.out | exact HNB.out.old | exact (NW.new HT5.out).old | exact NW.new2 HT5.out) hg4 hat)); clear hts hg4 hat)
      | (refine step_append_textsN ((toks a).length + 1 + (toks c).length + 1) rfl (.tmp 59) (.tmp 60) rfl _ (toks a ++ [tLB] ++ toks c) rfl (by first | exact HT6.out | exact HT6.out.on (below_alloc _ _) | exact (HT6.out.on (below_alloc _ _)).on (below_alloc _ _)) [tRB] (by simp <;> omega) _ _ rfl (World.news_of_block (NW.out1 (cs := #[.string ⟨#[93]⟩]) (by first | exact HNB.out | exact NW.new HT6.out | exact HNB.out.old | exact (NW.new HT6.out).old | exact NW.new2 HT6.out))) (by decide) (by simp; omega) ?_; intro g7 k7 w7 hts hg4 hat; have HT7 := Lib.hid hts; (try have HNB := Lib.hid (NW.app (n := (toks a).length + 1 + (toks c).length + 1) (c := k7) (cs := #[.string ⟨#[93]⟩]) (by first | exact HNB.out | exact NW.new HT6.out | exact HNB.out.old | exact (NW.new HT6.out).old | exact NW.new2 HT6.out) hg4 hat)); clear hts hg4 hat))
  all_goals go_wp2_with fail
  all_goals go_ret
  all_goals exact tok_end HW.out (l := toks a ++ [tLB] ++ toks c ++ [tRB]) (by rw [toks_index]; simp) (by simp <;> omega) HT7.out
end Go.Proofs.YtkcpfgnfhbbhhaaDoor.po
