/-
  impl.posOf at choices of numbers. Conditions: in the statement.
-/
import Derived.Test.YtkcpfgnfhbbhhaaDoorPoC
set_option linter.unusedVariables false
set_option linter.unusedSimpArgs false
namespace Go.Proofs.YtkcpfgnfhbbhhaaDoor.po
open Go.RowKit
set_option maxHeartbeats 8000000 in
set_option maxRecDepth 100000 in
theorem posof_ite {W w : World} {b : Nat} {a c d : PT} {va vc vd : Value} (ho : obj W b #[va, vc, vd] 99) (hb : Below W.heap.size W w) (ih0 : ∀ w', Below W.heap.size W w' → Calls Tryd.prog 15 #[va] w' (PosOut a w')) (ih1 : ∀ w', Below W.heap.size W w' → Calls Tryd.prog 15 #[vc] w' (PosOut c w')) (ih2 : ∀ w', Below W.heap.size W w' → Calls Tryd.prog 15 #[vd] w' (PosOut d w')) : Calls Tryd.prog 15 #[.iface 95 (.pointer (some ⟨b, 0, none⟩))] w (PosOut (.mk kIf [] 0 [a, c, d]) w) := by
  have hasx := posof_as95
  obtain ⟨has0, has1, has2, has3, has4, has5, has6, has7, has8, has9, has10⟩ := hasx
  obtain ⟨W1, hW1, hb1, hr, hz⟩ := res_block w
  have hlt := lt_of_heap ho
  have hwW := hb.size
  have HB1 := Lib.hid hb1
  have HR := Lib.hid hr
  have HZ := Lib.hid hz
  have HW1 := Lib.hid hW1
  have HBW : Hid (∀ w', W1.grownBy w' (some w.heap.size) → Below W.heap.size W w') := fun w' hg => below_row (hb.trans (hb1.mono hwW)) hg hwW
  have HI0 : Hid (∀ w', W1.grownBy w' (some w.heap.size) → Calls Tryd.prog 15 #[va] w' (PosOut a w')) := fun w' hg => ih0 w' (HBW.out w' hg)
  have HI1 : Hid (∀ w', W1.grownBy w' (some w.heap.size) → Calls Tryd.prog 15 #[vc] w' (PosOut c w')) := fun w' hg => ih1 w' (HBW.out w' hg)
  have HI2 : Hid (∀ w', W1.grownBy w' (some w.heap.size) → Calls Tryd.prog 15 #[vd] w' (PosOut d w')) := fun w' hg => ih2 w' (HBW.out w' hg)
  have HSF : Hid (∀ w', W1.grownBy w' (some w.heap.size) → w'.cell? ⟨b, 0, none⟩ = some va ∧ w'.cell? ⟨b, 1, none⟩ = some vc ∧ w'.cell? ⟨b, 2, none⟩ = some vd ∧ Hid (W1.grownBy w' (some w.heap.size))) := fun w' hg => by
    have h1 := HBW.out w' hg
    exact ⟨(h1.cell (p := ⟨b, 0, none⟩) hlt).trans (cells_of_heap ho 0), (h1.cell (p := ⟨b, 1, none⟩) hlt).trans (cells_of_heap ho 1), (h1.cell (p := ⟨b, 2, none⟩) hlt).trans (cells_of_heap ho 2), hg⟩
  clear hW1 hb1 hr hz hlt hwW hb ho ih0 ih1 ih2
  have tok0 : True := trivial
  have tok1 : True := trivial
  have tok2 : True := trivial
  go_enter Tryd.func15, Tryd.ntmps15
  go_wp2_with fail
  rw [← HW1.out]
  have hs0 := HSF.out _ (grown_drew' (grown_refl W1 _))
  go_region_held3 (fun w' => w'.cell? ⟨b, 0, none⟩ = some va ∧ w'.cell? ⟨b, 1, none⟩ = some vc ∧ w'.cell? ⟨b, 2, none⟩ = some vd ∧ Hid (W1.grownBy w' (some w.heap.size)))
    (first | assumption | exact HSF.out _ (by repeat (first | assumption | exact HG2.out | exact HG3.out | exact HG4.out | apply grown_set | apply grown_alloc)))
    (first
      | (go_at_call 15; have _t := tok0; refine (HI0.out _ (‹_ ∧ _ ∧ _ ∧ Hid (World.grownBy _ _ _)›).2.2.2.out).mono ?_; rintro e w2 ⟨c0, c1, c2, c3, rfl, hp, hb2⟩; have HP2 := Lib.hid hp; have HG2 : Hid (W1.grownBy w2 (some w.heap.size)) := grown_trans (‹_ ∧ _ ∧ _ ∧ Hid (World.grownBy _ _ _)›).2.2.2.out (grown_below hb2 _); have HR2 : Hid (obj w2 w.heap.size #[.string ⟨#[]⟩, .string ⟨#[]⟩, .int .i64 0, .slice none 0 0] 24) := (hb2.block w.heap.size (by have := HZ.out; show w.heap.size < W1.heap.size; omega)).trans HR.out; clear hp hb2 tok0)
      | (go_at_call 15; have _t := tok1; refine (HI1.out _ (‹_ ∧ _ ∧ _ ∧ Hid (World.grownBy _ _ _)›).2.2.2.out).mono ?_; rintro e w3 ⟨d0, d1, d2, d3, rfl, hp, hb2⟩; have HP3 := Lib.hid hp; have HG3 : Hid (W1.grownBy w3 (some w.heap.size)) := grown_trans HG2.out (grown_below hb2 _); have HR3 : Hid (obj w3 w.heap.size #[.string ⟨#[]⟩, .string ⟨#[]⟩, .int .i64 0, .slice none 0 0] 24) := (hb2.block w.heap.size (lt_of_heap HR2.out)).trans HR2.out; have HB3 := Lib.hid hb2; clear hp hb2 tok1)
      | (go_at_call 15; have _t := tok2; refine (HI2.out _ (‹_ ∧ _ ∧ _ ∧ Hid (World.grownBy _ _ _)›).2.2.2.out).mono ?_; rintro e w4 ⟨e0, e1, e2, e3, rfl, hp, hb2⟩; have HP4 := Lib.hid hp; have HG4 : Hid (W1.grownBy w4 (some w.heap.size)) := grown_trans HG3.out (grown_below hb2 _); have HR4 : Hid (obj w4 w.heap.size #[.string ⟨#[]⟩, .string ⟨#[]⟩, .int .i64 0, .slice none 0 0] 24) := (hb2.block w.heap.size (lt_of_heap HR3.out)).trans HR3.out; have HB4 := Lib.hid hb2; have hk : ∀ o, obj (w4.alloc o) w.heap.size #[.string ⟨#[]⟩, .string ⟨#[]⟩, .int .i64 0, .slice none 0 0] 24 := fun o => (heap_alloc_old w4 o (lt_of_heap HR4.out)).trans HR4.out; have HK := Lib.hid hk; have r0 := fun o => cells_of_heap (hk o) 0; have f0 := fun o => free_of_heap (hk o) 0; have r1 := fun o => cells_of_heap (hk o) 1; have f1 := fun o => free_of_heap (hk o) 1; have r2 := fun o => cells_of_heap (hk o) 2; have f2 := fun o => free_of_heap (hk o) 2; have r3 := fun o => cells_of_heap (hk o) 3; have f3 := fun o => free_of_heap (hk o) 3; clear hk; clear hp hb2 tok2))
  go_wp2_with fail
  show bodyPost _ _ _ .ret _ (put4 (w4.alloc (.cells #[c0, c1, c2, c3, d0, d1, d2, d3, e0, e1, e2, e3] 24)) w.heap.size (.string ⟨#[105, 102]⟩) (.string ⟨#[]⟩) (.int .i64 0) (.slice (some ⟨w4.heap.size, 0, none⟩) 3 3))
  have hrl := lt_of_heap HR4.out
  have hpg := put4_grown (w4.alloc (.cells #[c0, c1, c2, c3, d0, d1, d2, d3, e0, e1, e2, e3] 24)) w.heap.size (.string ⟨#[105, 102]⟩) (.string ⟨#[]⟩) (.int .i64 0) (.slice (some ⟨w4.heap.size, 0, none⟩) 3 3)
  have hg4 := grown_trans (World.grownBy_alloc w4 (.cells #[c0, c1, c2, c3, d0, d1, d2, d3, e0, e1, e2, e3] 24) (some w.heap.size)) hpg
  have hg3 := grown_trans (grown_below HB4.out (some w.heap.size)) hg4
  have hg2 := grown_trans (grown_below HB3.out (some w.heap.size)) hg3
  refine bodyPost_ret (posof_results rfl (put4_heap (HK.out _) _ _ _ _)) rfl ⟨_, _, _, _, rfl, ?_, below_row HB1.out (grown_trans HG4.out hg4) (Nat.le_refl _)⟩
  have hn : obj (put4 (w4.alloc (.cells #[c0, c1, c2, c3, d0, d1, d2, d3, e0, e1, e2, e3] 24)) w.heap.size (.string ⟨#[105, 102]⟩) (.string ⟨#[]⟩) (.int .i64 0) (.slice (some ⟨w4.heap.size, 0, none⟩) 3 3)) w4.heap.size #[c0, c1, c2, c3, d0, d1, d2, d3, e0, e1, e2, e3] 24 := (hpg.block w4.heap.size (by simp) (by simp; omega)).trans (heap_alloc_new w4 _)
  refine row_pos (P := From w) (l := [a, c, d]) (css := [[c0, c1, c2, c3], [d0, d1, d2, d3], [e0, e1, e2, e3]]) ⟨#[105, 102]⟩ (by decide) (by unfold maxLen; simp) rfl (by simp) (fun i hi h2 => ?_) (show w.heap.size ≤ w4.heap.size by omega) (lt_of_heap hn) (fun k hk => ?_) 3
  · match i, hi with
    | 0, _ => exact kid_end HP2.out hg2 (by have := HZ.out; show w.heap.size < W1.heap.size; omega) (Nat.le_refl _)
    | 1, _ => exact kid_end HP3.out hg3 (lt_of_heap HR2.out) (Nat.le_refl _)
    | 2, _ => exact kid_end HP4.out hg4 (lt_of_heap HR3.out) (Nat.le_refl _)
    | i + 3, hi => simp at hi; omega
  · rw [cells_of_heap hn]
    simp
end Go.Proofs.YtkcpfgnfhbbhhaaDoor.po
