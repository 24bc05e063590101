/-
  impl.posOf at choices of places and of nodes: the walks. Conditions: in the statements.
-/
import Derived.Test.YtkcpfgnfhbbhhaaDoorPoD
set_option linter.unusedVariables false
set_option linter.unusedSimpArgs false
namespace Go.Proofs.YtkcpfgnfhbbhhaaDoor.po
open Go.RowKit

theorem second_new (w : World) (o : Obj) (cs : Array Value) (t : TypeId) : obj ((w.alloc o).alloc (.cells cs t)) (w.heap.size + 1) cs t := by
  have h := heap_alloc_new (w.alloc o) (.cells cs t)
  have e : (w.alloc o).heap.size = w.heap.size + 1 := by simp
  rw [e] at h
  exact h
set_option maxHeartbeats 8000000 in
set_option maxRecDepth 100000 in
theorem posof_choice {W w : World} {b g cap : Nat} {l : List PT} {vs : List Value} (ho : obj W b #[.slice (some ⟨g, 0, none⟩) l.length cap] 69) (hgl : g < W.heap.size) (hvl : vs.length = l.length) (hv : ∀ i (h : i < vs.length), W.cell? ⟨g, i, none⟩ = some vs[i]) (h0 : 0 < l.length) (h1 : l.length ≤ 1048576) (hb : Below W.heap.size W w)
    (ih : ∀ i (h : i < l.length) (h2 : i < vs.length) w', Below W.heap.size W w' → Calls Tryd.prog 15 #[vs[i]] w' (PosOut l[i] w')) : Calls Tryd.prog 15 #[.iface 66 (.pointer (some ⟨b, 0, none⟩))] w (PosOut (.mk kChoice [] 0 l) w) := by
  have hasx := posof_as66
  obtain ⟨has0, has1, has2, has3⟩ := hasx
  have hlt := lt_of_heap ho
  have hwW := hb.size
  obtain ⟨i0, hi0, hz0, hz1, hz2⟩ := info_parts exprInfo
  have x0 : ∀ o o', ((w.alloc o).alloc o').cell? ⟨b, 0, none⟩ = some (.slice (some ⟨g, 0, none⟩) l.length cap) := fun o o' => by
    have h2 : Below w.heap.size w ((w.alloc o).alloc o') := (below_alloc w o).trans ((below_alloc _ o').mono (below_alloc w o).size)
    exact (h2.cell (p := ⟨b, 0, none⟩) (by show b < w.heap.size; omega)).trans ((hb.cell (p := ⟨b, 0, none⟩) hlt).trans (cells_of_heap ho 0))
  have HV : Hid (∀ wr, Below w.heap.size w wr → ∀ i (h : i < vs.length), wr.cell? ⟨g, i, none⟩ = some vs[i]) := fun wr h2 i hi => (h2.cell (p := ⟨g, i, none⟩) (by show g < w.heap.size; omega)).trans ((hb.cell (p := ⟨g, i, none⟩) hgl).trans (hv i hi))
  have HI : Hid (∀ wr, Below w.heap.size w wr → ∀ i (h : i < l.length) (h2 : i < vs.length), Calls Tryd.prog 15 #[vs[i]] wr.drew (PosOut l[i] wr.drew)) := fun wr h2 i hi hi2 => ih i hi hi2 _ (hb.trans (h2.drew.mono hwW))
  have H0 := Lib.hid h0
  have H1 := Lib.hid h1
  have HVL := Lib.hid hvl
  obtain ⟨m, hm⟩ : ∃ m, m = l.length := ⟨_, rfl⟩
  have HM := Lib.hid hm
  have hm1 : m ≤ 1048576 := by omega
  rw [← hm] at x0
  clear hlt hwW hb ho ih h0 h1 hm hvl hgl hv
  go_enter Tryd.func15, Tryd.ntmps15
  go_wp2_with fail
  have HL : Hid (PLoop w ((w.alloc (.cells #[.string ⟨#[]⟩, .string ⟨#[]⟩, .int .i64 0, .slice none 0 0] 24)).alloc (.cells #[.string ⟨#[99, 104, 111, 105, 99, 101]⟩, .string ⟨#[]⟩, .int .i64 0, .slice none 0 0] 24)) ⟨#[99, 104, 111, 105, 99, 101]⟩ l (.slice none 0 0) 0 []) := by
    refine ⟨(heap_alloc_old (w.alloc _) _ (by simp)).trans (heap_alloc_new w _), second_new w _ _ _, ⟨rfl, .inl ⟨rfl, rfl⟩⟩, rfl, by simp, fun j hj h2 => by simp at h2, (below_alloc w _).trans ((below_alloc _ _).mono (below_alloc w _).size), by simp⟩
  go_loopw [58] (fun iv wr => ∃ i v css, i ≤ m ∧ iv = .int .i64 ((i : Nat) : Int) ∧ Hid (PLoop w wr ⟨#[99, 104, 111, 105, 99, 101]⟩ l v i css)) (fun iv _ => m - (intOf iv).toNat)
  case atStart => exact ⟨0, _, _, Nat.zero_le _, rfl, HL.out⟩
  case round =>
    rename World => wo
    obtain ⟨i, v, css, hi, rfl, HN⟩ := hrel
    by_cases hlt : i < m
    · have hz : (i : Int) < (m : Int) := by omega
      have hil : i < l.length := by have := HM.out; omega
      have hiv : i < vs.length := by have := HM.out; have := HVL.out; omega
      have y0 := HV.out wo HN.out.below i hiv
      have HI2 := Lib.hid (HI.out wo HN.out.below i hil hiv)
      have q3 : wo.drew.cell? ⟨w.heap.size + 1, 3, none⟩ = some v := cells_of_heap (w := wo) HN.out.xo 3
      have tok : True := trivial
      obtain ⟨vi, hvi⟩ : ∃ vi, vi = vs[i] := ⟨_, rfl⟩
      rw [← hvi] at y0 HI2
      clear hvi hiv
      go_wp2_with fail
      go_region_law (first
        | (go_simp; go_at_call 15; have _t := tok; refine HI2.out.mono ?_; rintro e w2 ⟨c0, c1, c2, c3, rfl, hp, hb2⟩; have HP2 : Hid (PosP (From wo) w2 l[i] [c0, c1, c2, c3]) := hp; have HB2 : Hid (Below wo.heap.size wo w2) := (Below.refl _ wo).drew.trans hb2; have q4 : w2.cell? ⟨w.heap.size + 1, 3, none⟩ = some v := (hb2.cell (p := ⟨w.heap.size + 1, 3, none⟩) (lt_of_heap HN.out.xo)).trans (cells_of_heap HN.out.xo 3); have q5 : ∀ o, (w2.alloc o).cell? ⟨w.heap.size + 1, 3, none⟩ = some v := fun o => ((below_alloc w2 o).cell (p := ⟨w.heap.size + 1, 3, none⟩) (Nat.lt_of_lt_of_le (lt_of_heap HN.out.xo) hb2.size)).trans q4; clear hp hb2 tok)
        | (refine step_append_lies _ rfl (.tmp 63) (.tmp 66) 22 rfl (w.heap.size + 2) 24 i0 _ 4 64 Tryd.underlying22 hi0 hz0 hz1 hz2 rfl (by decide) v i css.flatten (by simp [Act.eval, Act.put]) (own_below (own_below HN.out.row (HB2.out)) (below_alloc w2 _)) ⟨w2.heap.size, 0, none⟩ 1 1 [c0, c1, c2, c3] (by simp [Act.eval, Act.put]) rfl (World.news_of_block (heap_alloc_new w2 _)) HP2.out.one (by decide) (by unfold maxLen; omega) (by omega) (by have := HN.out.size; have := HB2.out.size; simp; omega) (w2.heap.size + 1) (by simp) ?_; intro g4 cap4 w4 hown hgrow hat hlt4; have HN4 := Lib.hid (HN.out.next (hi := hil) HB2.out HP2.out hown hgrow hat); have hx4 := HN.out.at4 HB2.out hgrow; have y3 := cells_of_heap hx4 3; have f3 := free_of_heap hx4 3; clear hown hgrow hat hlt4 hx4))
      all_goals go_wp2_with fail
      all_goals exact ⟨⟨i + 1, _, _, by omega, by go_num, HN4.out⟩, by simp [intOf]; omega⟩
    · have hz : ¬ (i : Int) < (m : Int) := by omega
      have him : i = l.length := by have := HM.out; omega
      subst him
      obtain ⟨gl, capl, rfl⟩ : ∃ gl capl, v = .slice (some ⟨gl, 0, none⟩) l.length capl := by
        obtain ⟨_, ⟨_, h2⟩ | ⟨gl, capl, _, h3, _⟩⟩ := HN.out.row
        · have := H0.out
          omega
        · exact ⟨gl, capl, h3⟩
      have q0 := cells_of_heap HN.out.xo 0
      have q1 := cells_of_heap HN.out.xo 1
      have q2 := cells_of_heap HN.out.xo 2
      have q3 := cells_of_heap HN.out.xo 3
      have r0 := cells_of_heap HN.out.res 0
      have r1 := cells_of_heap HN.out.res 1
      have r2 := cells_of_heap HN.out.res 2
      have r3 := cells_of_heap HN.out.res 3
      have f0 := free_of_heap HN.out.res 0
      have f1 := free_of_heap HN.out.res 1
      have f2 := free_of_heap HN.out.res 2
      have f3 := free_of_heap HN.out.res 3
      go_wp2_with fail
      show bodyPost _ _ _ .ret _ (put4 wo w.heap.size (.string ⟨#[99, 104, 111, 105, 99, 101]⟩) (.string ⟨#[]⟩) (.int .i64 0) (.slice (some ⟨gl, 0, none⟩) l.length capl))
      exact bodyPost_ret (posof_results rfl (put4_heap HN.out.res _ _ _ _)) rfl ⟨_, _, _, _, rfl, HN.out.done H0.out (by have := H1.out; unfold maxLen; omega) (by decide), below_row HN.out.below (put4_grown _ _ _ _ _ _) (Nat.le_refl _)⟩
set_option maxHeartbeats 8000000 in
set_option maxRecDepth 100000 in
theorem posof_nodes {W w : World} {b g cap : Nat} {l : List PT} {vs : List Value} (ho : obj W b #[.slice (some ⟨g, 0, none⟩) l.length cap] 73) (hgl : g < W.heap.size) (hvl : vs.length = l.length) (hv : ∀ i (h : i < vs.length), W.cell? ⟨g, i, none⟩ = some vs[i]) (h0 : 0 < l.length) (h1 : l.length ≤ 1048576) (hb : Below W.heap.size W w)
    (ih : ∀ i (h : i < l.length) (h2 : i < vs.length) w', Below W.heap.size W w' → Calls Tryd.prog 15 #[vs[i]] w' (PosOut l[i] w')) : Calls Tryd.prog 15 #[.iface 70 (.pointer (some ⟨b, 0, none⟩))] w (PosOut (.mk kNodes [] 0 l) w) := by
  have hasx := posof_as70
  obtain ⟨has0, has1, has2, has3, has4⟩ := hasx
  have hlt := lt_of_heap ho
  have hwW := hb.size
  obtain ⟨i0, hi0, hz0, hz1, hz2⟩ := info_parts exprInfo
  have x0 : ∀ o o', ((w.alloc o).alloc o').cell? ⟨b, 0, none⟩ = some (.slice (some ⟨g, 0, none⟩) l.length cap) := fun o o' => by
    have h2 : Below w.heap.size w ((w.alloc o).alloc o') := (below_alloc w o).trans ((below_alloc _ o').mono (below_alloc w o).size)
    exact (h2.cell (p := ⟨b, 0, none⟩) (by show b < w.heap.size; omega)).trans ((hb.cell (p := ⟨b, 0, none⟩) hlt).trans (cells_of_heap ho 0))
  have HV : Hid (∀ wr, Below w.heap.size w wr → ∀ i (h : i < vs.length), wr.cell? ⟨g, i, none⟩ = some vs[i]) := fun wr h2 i hi => (h2.cell (p := ⟨g, i, none⟩) (by show g < w.heap.size; omega)).trans ((hb.cell (p := ⟨g, i, none⟩) hgl).trans (hv i hi))
  have HI : Hid (∀ wr, Below w.heap.size w wr → ∀ i (h : i < l.length) (h2 : i < vs.length), Calls Tryd.prog 15 #[vs[i]] wr.drew (PosOut l[i] wr.drew)) := fun wr h2 i hi hi2 => ih i hi hi2 _ (hb.trans (h2.drew.mono hwW))
  have H0 := Lib.hid h0
  have H1 := Lib.hid h1
  have HVL := Lib.hid hvl
  obtain ⟨m, hm⟩ : ∃ m, m = l.length := ⟨_, rfl⟩
  have HM := Lib.hid hm
  have hm1 : m ≤ 1048576 := by omega
  rw [← hm] at x0
  clear hlt hwW hb ho ih h0 h1 hm hvl hgl hv
  go_enter Tryd.func15, Tryd.ntmps15
  go_wp2_with fail
  have HL : Hid (PLoop w ((w.alloc (.cells #[.string ⟨#[]⟩, .string ⟨#[]⟩, .int .i64 0, .slice none 0 0] 24)).alloc (.cells #[.string ⟨#[110, 111, 100, 101, 115]⟩, .string ⟨#[]⟩, .int .i64 0, .slice none 0 0] 24)) ⟨#[110, 111, 100, 101, 115]⟩ l (.slice none 0 0) 0 []) := by
    refine ⟨(heap_alloc_old (w.alloc _) _ (by simp)).trans (heap_alloc_new w _), second_new w _ _ _, ⟨rfl, .inl ⟨rfl, rfl⟩⟩, rfl, by simp, fun j hj h2 => by simp at h2, (below_alloc w _).trans ((below_alloc _ _).mono (below_alloc w _).size), by simp⟩
  go_loopw [80] (fun iv wr => ∃ i v css, i ≤ m ∧ iv = .int .i64 ((i : Nat) : Int) ∧ Hid (PLoop w wr ⟨#[110, 111, 100, 101, 115]⟩ l v i css)) (fun iv _ => m - (intOf iv).toNat)
  case atStart => exact ⟨0, _, _, Nat.zero_le _, rfl, HL.out⟩
  case round =>
    rename World => wo
    obtain ⟨i, v, css, hi, rfl, HN⟩ := hrel
    by_cases hlt : i < m
    · have hz : (i : Int) < (m : Int) := by omega
      have hil : i < l.length := by have := HM.out; omega
      have hiv : i < vs.length := by have := HM.out; have := HVL.out; omega
      have y0 := HV.out wo HN.out.below i hiv
      have HI2 := Lib.hid (HI.out wo HN.out.below i hil hiv)
      have q3 : wo.drew.cell? ⟨w.heap.size + 1, 3, none⟩ = some v := cells_of_heap (w := wo) HN.out.xo 3
      have tok : True := trivial
      obtain ⟨vi, hvi⟩ : ∃ vi, vi = vs[i] := ⟨_, rfl⟩
      rw [← hvi] at y0 HI2
      clear hvi hiv
      go_wp2_with fail
      go_region_law (first
        | (go_simp; go_at_call 15; have _t := tok; refine HI2.out.mono ?_; rintro e w2 ⟨c0, c1, c2, c3, rfl, hp, hb2⟩; have HP2 : Hid (PosP (From wo) w2 l[i] [c0, c1, c2, c3]) := hp; have HB2 : Hid (Below wo.heap.size wo w2) := (Below.refl _ wo).drew.trans hb2; have q4 : w2.cell? ⟨w.heap.size + 1, 3, none⟩ = some v := (hb2.cell (p := ⟨w.heap.size + 1, 3, none⟩) (lt_of_heap HN.out.xo)).trans (cells_of_heap HN.out.xo 3); have q5 : ∀ o, (w2.alloc o).cell? ⟨w.heap.size + 1, 3, none⟩ = some v := fun o => ((below_alloc w2 o).cell (p := ⟨w.heap.size + 1, 3, none⟩) (Nat.lt_of_lt_of_le (lt_of_heap HN.out.xo) hb2.size)).trans q4; clear hp hb2 tok)
        | (refine step_append_lies _ rfl (.tmp 85) (.tmp 88) 22 rfl (w.heap.size + 2) 24 i0 _ 4 64 Tryd.underlying22 hi0 hz0 hz1 hz2 rfl (by decide) v i css.flatten (by simp [Act.eval, Act.put]) (own_below (own_below HN.out.row (HB2.out)) (below_alloc w2 _)) ⟨w2.heap.size, 0, none⟩ 1 1 [c0, c1, c2, c3] (by simp [Act.eval, Act.put]) rfl (World.news_of_block (heap_alloc_new w2 _)) HP2.out.one (by decide) (by unfold maxLen; omega) (by omega) (by have := HN.out.size; have := HB2.out.size; simp; omega) (w2.heap.size + 1) (by simp) ?_; intro g4 cap4 w4 hown hgrow hat hlt4; have HN4 := Lib.hid (HN.out.next (hi := hil) HB2.out HP2.out hown hgrow hat); have hx4 := HN.out.at4 HB2.out hgrow; have y3 := cells_of_heap hx4 3; have f3 := free_of_heap hx4 3; clear hown hgrow hat hlt4 hx4))
      all_goals go_wp2_with fail
      all_goals exact ⟨⟨i + 1, _, _, by omega, by go_num, HN4.out⟩, by simp [intOf]; omega⟩
    · have hz : ¬ (i : Int) < (m : Int) := by omega
      have him : i = l.length := by have := HM.out; omega
      subst him
      obtain ⟨gl, capl, rfl⟩ : ∃ gl capl, v = .slice (some ⟨gl, 0, none⟩) l.length capl := by
        obtain ⟨_, ⟨_, h2⟩ | ⟨gl, capl, _, h3, _⟩⟩ := HN.out.row
        · have := H0.out
          omega
        · exact ⟨gl, capl, h3⟩
      have q0 := cells_of_heap HN.out.xo 0
      have q1 := cells_of_heap HN.out.xo 1
      have q2 := cells_of_heap HN.out.xo 2
      have q3 := cells_of_heap HN.out.xo 3
      have r0 := cells_of_heap HN.out.res 0
      have r1 := cells_of_heap HN.out.res 1
      have r2 := cells_of_heap HN.out.res 2
      have r3 := cells_of_heap HN.out.res 3
      have f0 := free_of_heap HN.out.res 0
      have f1 := free_of_heap HN.out.res 1
      have f2 := free_of_heap HN.out.res 2
      have f3 := free_of_heap HN.out.res 3
      go_wp2_with fail
      show bodyPost _ _ _ .ret _ (put4 wo w.heap.size (.string ⟨#[110, 111, 100, 101, 115]⟩) (.string ⟨#[]⟩) (.int .i64 0) (.slice (some ⟨gl, 0, none⟩) l.length capl))
      exact bodyPost_ret (posof_results rfl (put4_heap HN.out.res _ _ _ _)) rfl ⟨_, _, _, _, rfl, HN.out.done H0.out (by have := H1.out; unfold maxLen; omega) (by decide), below_row HN.out.below (put4_grown _ _ _ _ _ _) (Nat.le_refl _)⟩
end Go.Proofs.YtkcpfgnfhbbhhaaDoor.po
