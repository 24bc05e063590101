/-
  impl.posOf at names, numbers, places, ends, last elements, lengths. Conditions: in the statements.
-/
import Derived.Test.YtkcpfgnfhbbhhaaDoorPoA
set_option linter.unusedVariables false
set_option linter.unusedSimpArgs false
namespace Go.Proofs.YtkcpfgnfhbbhhaaDoor.po
open Go.RowKit

/-- The result's block as the function makes it. -/
theorem res_block (w : World) : ∃ w1, w1 = w.alloc (.cells #[.string ⟨#[]⟩, .string ⟨#[]⟩, .int .i64 0, .slice none 0 0] 24) ∧ Below w.heap.size w w1 ∧ obj w1 w.heap.size #[.string ⟨#[]⟩, .string ⟨#[]⟩, .int .i64 0, .slice none 0 0] 24 ∧ w1.heap.size = w.heap.size + 1 :=
  ⟨_, rfl, below_alloc w _, heap_alloc_new w _, by simp⟩
theorem leaf_pos {P : Nat → Prop} {W : World} (K N : ByteArray) (n : Int) (hK : K.size ≤ maxLen) (hN : N.size ≤ maxLen) (hn : -9223372036854775808 ≤ n ∧ n ≤ 9223372036854775807) : PosP P W (.mk K.data.toList N.data.toList n []) [.string K, .string N, .int .i64 n, .slice none 0 0] :=
  .mk K N n [] none 0 [] hK hN hn (Nat.zero_le _) rfl (fun i h => by simp at h) (fun i h => by simp at h)
/-- One argument in a new block. -/
theorem one_pos {P : Nat → Prop} {W : World} {a : PT} {c0 c1 c2 c3 : Value} {b : Nat} (K : ByteArray) (hK : K.size ≤ maxLen) (h : PosP P W a [c0, c1, c2, c3]) (hb : P b) (ho : obj W b #[c0, c1, c2, c3] 24) (cap : Nat) : PosP P W (.mk K.data.toList [] 0 [a]) [.string K, .string ⟨#[]⟩, .int .i64 0, .slice (some ⟨b, 0, none⟩) 1 cap] := by
  refine .mk K ⟨#[]⟩ 0 [a] (some ⟨b, 0, none⟩) cap [[c0, c1, c2, c3]] hK (by decide) (by decide) (by unfold maxLen; simp) rfl (fun i hi h2 => ?_) (fun i h2 => ⟨b, 0, rfl, hb, lt_of_heap ho, ?_, fun j hj => ?_⟩)
  · match i, hi with
    | 0, _ => exact h
    | i + 1, hi => simp at hi
  · match i, h2 with
    | 0, _ => rfl
    | i + 1, hi => simp at hi
  · match i, h2 with
    | 0, _ =>
      rw [cells_of_heap ho]
      simp
    | i + 1, hi => simp at hi
set_option maxHeartbeats 4000000 in
set_option maxRecDepth 100000 in
theorem posof_var {W w : World} {b : Nat} (x : ByteArray) (ho : obj W b #[.string x] 58) (hb : Below W.heap.size W w) (hx : x.size ≤ maxLen) : Calls Tryd.prog 15 #[.iface 56 (.pointer (some ⟨b, 0, none⟩))] w (PosOut (.mk kVar x.data.toList 0 []) w) := by
  have hasx := posof_as56
  have has0 := hasx
  have hlt := lt_of_heap ho
  have x0 : ∀ o, (w.alloc o).cell? ⟨b, 0, none⟩ = some (.string x) := fun o => ((below_alloc w o).cell (p := ⟨b, 0, none⟩) (Nat.lt_of_lt_of_le hlt hb.size)).trans ((hb.cell (p := ⟨b, 0, none⟩) hlt).trans (cells_of_heap ho 0))
  clear hlt hb ho
  go_enter Tryd.func15, Tryd.ntmps15
  go_wp2_with fail
  exact bodyPost_ret (posof_results rfl (heap_alloc_new w _)) rfl ⟨_, _, _, _, rfl, leaf_pos ⟨#[118, 97, 114]⟩ x 0 (by decide) hx (by decide), below_alloc w _⟩
set_option maxHeartbeats 4000000 in
set_option maxRecDepth 100000 in
theorem posof_int {W w : World} {b : Nat} (x : Int) (ho : obj W b #[.int .i64 x] 94) (hb : Below W.heap.size W w) (hx : -9223372036854775808 ≤ x ∧ x ≤ 9223372036854775807) : Calls Tryd.prog 15 #[.iface 92 (.pointer (some ⟨b, 0, none⟩))] w (PosOut (.mk kInt [] x []) w) := by
  have hasx := posof_as92
  obtain ⟨has0, has1, has2, has3, has4, has5, has6, has7, has8, has9⟩ := hasx
  have hlt := lt_of_heap ho
  have x0 : ∀ o, (w.alloc o).cell? ⟨b, 0, none⟩ = some (.int .i64 x) := fun o => ((below_alloc w o).cell (p := ⟨b, 0, none⟩) (Nat.lt_of_lt_of_le hlt hb.size)).trans ((hb.cell (p := ⟨b, 0, none⟩) hlt).trans (cells_of_heap ho 0))
  clear hlt hb ho
  go_enter Tryd.func15, Tryd.ntmps15
  go_wp2_with fail
  exact bodyPost_ret (posof_results rfl (heap_alloc_new w _)) rfl ⟨_, _, _, _, rfl, leaf_pos ⟨#[105, 110, 116]⟩ ⟨#[]⟩ x (by decide) (by decide) hx, below_alloc w _⟩
set_option maxHeartbeats 4000000 in
set_option maxRecDepth 100000 in
theorem posof_pos {W w : World} {b : Nat} {a : PT} {va : Value} (ho : obj W b #[va] 63) (hb : Below W.heap.size W w) (ih : ∀ w', Below W.heap.size W w' → Calls Tryd.prog 15 #[va] w' (PosOut a w')) : Calls Tryd.prog 15 #[.iface 59 (.pointer (some ⟨b, 0, none⟩))] w (PosOut (.mk kPos [] 0 [a]) w) := by
  have hasx := posof_as59
  obtain ⟨has0, has1⟩ := hasx
  have hlt := lt_of_heap ho
  have x0 : ∀ o, (w.alloc o).cell? ⟨b, 0, none⟩ = some va := fun o => ((below_alloc w o).cell (p := ⟨b, 0, none⟩) (Nat.lt_of_lt_of_le hlt hb.size)).trans ((hb.cell (p := ⟨b, 0, none⟩) hlt).trans (cells_of_heap ho 0))
  have HI : Hid (∀ o, Calls Tryd.prog 15 #[va] (w.alloc o) (PosOut a (w.alloc o))) := fun o => ih _ (hb.trans ((below_alloc w o).mono hb.size))
  clear hlt hb ho ih
  go_enter Tryd.func15, Tryd.ntmps15
  go_wp2_with fail
  refine (HI.out _).mono ?_
  rintro e w2 ⟨c0, c1, c2, c3, rfl, hp, hb2⟩
  have hr : obj w2 w.heap.size #[.string ⟨#[]⟩, .string ⟨#[]⟩, .int .i64 0, .slice none 0 0] 24 := (hb2.block w.heap.size (by simp)).trans (heap_alloc_new w _)
  have hz2 : w.heap.size + 1 ≤ w2.heap.size := by have := hb2.size; simp at this; omega
  have hk : ∀ o, obj (w2.alloc o) w.heap.size #[.string ⟨#[]⟩, .string ⟨#[]⟩, .int .i64 0, .slice none 0 0] 24 := fun o => (heap_alloc_old w2 o (by omega)).trans hr
  have r0 := fun o => cells_of_heap (hk o) 0
  have f0 := fun o => free_of_heap (hk o) 0
  have r1 := fun o => cells_of_heap (hk o) 1
  have f1 := fun o => free_of_heap (hk o) 1
  have r2 := fun o => cells_of_heap (hk o) 2
  have f2 := fun o => free_of_heap (hk o) 2
  have r3 := fun o => cells_of_heap (hk o) 3
  have f3 := fun o => free_of_heap (hk o) 3
  have HK := Lib.hid hk
  have HP := Lib.hid hp
  have HB2 := Lib.hid hb2
  have HZ2 := Lib.hid hz2
  clear hr hk hp hb2 hz2
  go_wp2_with fail
  show bodyPost _ _ _ .ret _ (put4 (w2.alloc (.cells #[c0, c1, c2, c3] 24)) w.heap.size (.string ⟨#[112, 111, 115]⟩) (.string ⟨#[]⟩) (.int .i64 0) (.slice (some ⟨w2.heap.size, 0, none⟩) 1 1))
  have hz := HZ2.out
  have hg := grown_trans (World.grownBy_alloc w2 (.cells #[c0, c1, c2, c3] 24) (some w.heap.size)) (put4_grown (w2.alloc (.cells #[c0, c1, c2, c3] 24)) w.heap.size (.string ⟨#[112, 111, 115]⟩) (.string ⟨#[]⟩) (.int .i64 0) (.slice (some ⟨w2.heap.size, 0, none⟩) 1 1))
  refine bodyPost_ret (posof_results rfl (put4_heap (HK.out _) _ _ _ _)) rfl ⟨_, _, _, _, rfl, ?_, below_row ((below_alloc w _).trans (HB2.out.mono (below_alloc w _).size)) hg (Nat.le_refl _)⟩
  refine one_pos (P := From w) ⟨#[112, 111, 115]⟩ (by decide) ((HP.out.grown hg fun b' _ hb e => ?_).mono fun b' _ hb => ?_) ?_ ?_ 1
  · have h1 : (w.alloc _).heap.size ≤ b' := hb
    have h2 : b' = w.heap.size := by simpa using e
    simp at h1
    omega
  · have h1 : (w.alloc _).heap.size ≤ b' := hb
    show w.heap.size ≤ b'
    simp at h1
    omega
  · show w.heap.size ≤ w2.heap.size
    omega
  · exact ((put4_grown (w2.alloc (.cells #[c0, c1, c2, c3] 24)) w.heap.size _ _ _ _).block w2.heap.size (by simp) (by simp; omega)).trans (heap_alloc_new w2 _)
set_option maxHeartbeats 4000000 in
set_option maxRecDepth 100000 in
theorem posof_fin {W w : World} {b : Nat} {a : PT} {va : Value} (ho : obj W b #[va] 65) (hb : Below W.heap.size W w) (ih : ∀ w', Below W.heap.size W w' → Calls Tryd.prog 15 #[va] w' (PosOut a w')) : Calls Tryd.prog 15 #[.iface 64 (.pointer (some ⟨b, 0, none⟩))] w (PosOut (.mk kEnd [] 0 [a]) w) := by
  have hasx := posof_as64
  obtain ⟨has0, has1, has2⟩ := hasx
  have hlt := lt_of_heap ho
  have x0 : ∀ o, (w.alloc o).cell? ⟨b, 0, none⟩ = some va := fun o => ((below_alloc w o).cell (p := ⟨b, 0, none⟩) (Nat.lt_of_lt_of_le hlt hb.size)).trans ((hb.cell (p := ⟨b, 0, none⟩) hlt).trans (cells_of_heap ho 0))
  have HI : Hid (∀ o, Calls Tryd.prog 15 #[va] (w.alloc o) (PosOut a (w.alloc o))) := fun o => ih _ (hb.trans ((below_alloc w o).mono hb.size))
  clear hlt hb ho ih
  go_enter Tryd.func15, Tryd.ntmps15
  go_wp2_with fail
  refine (HI.out _).mono ?_
  rintro e w2 ⟨c0, c1, c2, c3, rfl, hp, hb2⟩
  have hr : obj w2 w.heap.size #[.string ⟨#[]⟩, .string ⟨#[]⟩, .int .i64 0, .slice none 0 0] 24 := (hb2.block w.heap.size (by simp)).trans (heap_alloc_new w _)
  have hz2 : w.heap.size + 1 ≤ w2.heap.size := by have := hb2.size; simp at this; omega
  have hk : ∀ o, obj (w2.alloc o) w.heap.size #[.string ⟨#[]⟩, .string ⟨#[]⟩, .int .i64 0, .slice none 0 0] 24 := fun o => (heap_alloc_old w2 o (by omega)).trans hr
  have r0 := fun o => cells_of_heap (hk o) 0
  have f0 := fun o => free_of_heap (hk o) 0
  have r1 := fun o => cells_of_heap (hk o) 1
  have f1 := fun o => free_of_heap (hk o) 1
  have r2 := fun o => cells_of_heap (hk o) 2
  have f2 := fun o => free_of_heap (hk o) 2
  have r3 := fun o => cells_of_heap (hk o) 3
  have f3 := fun o => free_of_heap (hk o) 3
  have HK := Lib.hid hk
  have HP := Lib.hid hp
  have HB2 := Lib.hid hb2
  have HZ2 := Lib.hid hz2
  clear hr hk hp hb2 hz2
  go_wp2_with fail
  show bodyPost _ _ _ .ret _ (put4 (w2.alloc (.cells #[c0, c1, c2, c3] 24)) w.heap.size (.string ⟨#[101, 110, 100]⟩) (.string ⟨#[]⟩) (.int .i64 0) (.slice (some ⟨w2.heap.size, 0, none⟩) 1 1))
  have hz := HZ2.out
  have hg := grown_trans (World.grownBy_alloc w2 (.cells #[c0, c1, c2, c3] 24) (some w.heap.size)) (put4_grown (w2.alloc (.cells #[c0, c1, c2, c3] 24)) w.heap.size (.string ⟨#[101, 110, 100]⟩) (.string ⟨#[]⟩) (.int .i64 0) (.slice (some ⟨w2.heap.size, 0, none⟩) 1 1))
  refine bodyPost_ret (posof_results rfl (put4_heap (HK.out _) _ _ _ _)) rfl ⟨_, _, _, _, rfl, ?_, below_row ((below_alloc w _).trans (HB2.out.mono (below_alloc w _).size)) hg (Nat.le_refl _)⟩
  refine one_pos (P := From w) ⟨#[101, 110, 100]⟩ (by decide) ((HP.out.grown hg fun b' _ hb e => ?_).mono fun b' _ hb => ?_) ?_ ?_ 1
  · have h1 : (w.alloc _).heap.size ≤ b' := hb
    have h2 : b' = w.heap.size := by simpa using e
    simp at h1
    omega
  · have h1 : (w.alloc _).heap.size ≤ b' := hb
    show w.heap.size ≤ b'
    simp at h1
    omega
  · show w.heap.size ≤ w2.heap.size
    omega
  · exact ((put4_grown (w2.alloc (.cells #[c0, c1, c2, c3] 24)) w.heap.size _ _ _ _).block w2.heap.size (by simp) (by simp; omega)).trans (heap_alloc_new w2 _)
set_option maxHeartbeats 4000000 in
set_option maxRecDepth 100000 in
theorem posof_last {W w : World} {b : Nat} {a : PT} {va : Value} (ho : obj W b #[va] 86) (hb : Below W.heap.size W w) (ih : ∀ w', Below W.heap.size W w' → Calls Tryd.prog 15 #[va] w' (PosOut a w')) : Calls Tryd.prog 15 #[.iface 84 (.pointer (some ⟨b, 0, none⟩))] w (PosOut (.mk kLast [] 0 [a]) w) := by
  have hasx := posof_as84
  obtain ⟨has0, has1, has2, has3, has4, has5, has6, has7⟩ := hasx
  have hlt := lt_of_heap ho
  have x0 : ∀ o, (w.alloc o).cell? ⟨b, 0, none⟩ = some va := fun o => ((below_alloc w o).cell (p := ⟨b, 0, none⟩) (Nat.lt_of_lt_of_le hlt hb.size)).trans ((hb.cell (p := ⟨b, 0, none⟩) hlt).trans (cells_of_heap ho 0))
  have HI : Hid (∀ o, Calls Tryd.prog 15 #[va] (w.alloc o) (PosOut a (w.alloc o))) := fun o => ih _ (hb.trans ((below_alloc w o).mono hb.size))
  clear hlt hb ho ih
  go_enter Tryd.func15, Tryd.ntmps15
  go_wp2_with fail
  refine (HI.out _).mono ?_
  rintro e w2 ⟨c0, c1, c2, c3, rfl, hp, hb2⟩
  have hr : obj w2 w.heap.size #[.string ⟨#[]⟩, .string ⟨#[]⟩, .int .i64 0, .slice none 0 0] 24 := (hb2.block w.heap.size (by simp)).trans (heap_alloc_new w _)
  have hz2 : w.heap.size + 1 ≤ w2.heap.size := by have := hb2.size; simp at this; omega
  have hk : ∀ o, obj (w2.alloc o) w.heap.size #[.string ⟨#[]⟩, .string ⟨#[]⟩, .int .i64 0, .slice none 0 0] 24 := fun o => (heap_alloc_old w2 o (by omega)).trans hr
  have r0 := fun o => cells_of_heap (hk o) 0
  have f0 := fun o => free_of_heap (hk o) 0
  have r1 := fun o => cells_of_heap (hk o) 1
  have f1 := fun o => free_of_heap (hk o) 1
  have r2 := fun o => cells_of_heap (hk o) 2
  have f2 := fun o => free_of_heap (hk o) 2
  have r3 := fun o => cells_of_heap (hk o) 3
  have f3 := fun o => free_of_heap (hk o) 3
  have HK := Lib.hid hk
  have HP := Lib.hid hp
  have HB2 := Lib.hid hb2
  have HZ2 := Lib.hid hz2
  clear hr hk hp hb2 hz2
  go_wp2_with fail
  show bodyPost _ _ _ .ret _ (put4 (w2.alloc (.cells #[c0, c1, c2, c3] 24)) w.heap.size (.string ⟨#[108, 97, 115, 116]⟩) (.string ⟨#[]⟩) (.int .i64 0) (.slice (some ⟨w2.heap.size, 0, none⟩) 1 1))
  have hz := HZ2.out
  have hg := grown_trans (World.grownBy_alloc w2 (.cells #[c0, c1, c2, c3] 24) (some w.heap.size)) (put4_grown (w2.alloc (.cells #[c0, c1, c2, c3] 24)) w.heap.size (.string ⟨#[108, 97, 115, 116]⟩) (.string ⟨#[]⟩) (.int .i64 0) (.slice (some ⟨w2.heap.size, 0, none⟩) 1 1))
  refine bodyPost_ret (posof_results rfl (put4_heap (HK.out _) _ _ _ _)) rfl ⟨_, _, _, _, rfl, ?_, below_row ((below_alloc w _).trans (HB2.out.mono (below_alloc w _).size)) hg (Nat.le_refl _)⟩
  refine one_pos (P := From w) ⟨#[108, 97, 115, 116]⟩ (by decide) ((HP.out.grown hg fun b' _ hb e => ?_).mono fun b' _ hb => ?_) ?_ ?_ 1
  · have h1 : (w.alloc _).heap.size ≤ b' := hb
    have h2 : b' = w.heap.size := by simpa using e
    simp at h1
    omega
  · have h1 : (w.alloc _).heap.size ≤ b' := hb
    show w.heap.size ≤ b'
    simp at h1
    omega
  · show w.heap.size ≤ w2.heap.size
    omega
  · exact ((put4_grown (w2.alloc (.cells #[c0, c1, c2, c3] 24)) w.heap.size _ _ _ _).block w2.heap.size (by simp) (by simp; omega)).trans (heap_alloc_new w2 _)
set_option maxHeartbeats 4000000 in
set_option maxRecDepth 100000 in
theorem posof_len {W w : World} {b : Nat} {a : PT} {va : Value} (ho : obj W b #[va] 91) (hb : Below W.heap.size W w) (ih : ∀ w', Below W.heap.size W w' → Calls Tryd.prog 15 #[va] w' (PosOut a w')) : Calls Tryd.prog 15 #[.iface 87 (.pointer (some ⟨b, 0, none⟩))] w (PosOut (.mk kLen [] 0 [a]) w) := by
  have hasx := posof_as87
  obtain ⟨has0, has1, has2, has3, has4, has5, has6, has7, has8⟩ := hasx
  have hlt := lt_of_heap ho
  have x0 : ∀ o, (w.alloc o).cell? ⟨b, 0, none⟩ = some va := fun o => ((below_alloc w o).cell (p := ⟨b, 0, none⟩) (Nat.lt_of_lt_of_le hlt hb.size)).trans ((hb.cell (p := ⟨b, 0, none⟩) hlt).trans (cells_of_heap ho 0))
  have HI : Hid (∀ o, Calls Tryd.prog 15 #[va] (w.alloc o) (PosOut a (w.alloc o))) := fun o => ih _ (hb.trans ((below_alloc w o).mono hb.size))
  clear hlt hb ho ih
  go_enter Tryd.func15, Tryd.ntmps15
  go_wp2_with fail
  refine (HI.out _).mono ?_
  rintro e w2 ⟨c0, c1, c2, c3, rfl, hp, hb2⟩
  have hr : obj w2 w.heap.size #[.string ⟨#[]⟩, .string ⟨#[]⟩, .int .i64 0, .slice none 0 0] 24 := (hb2.block w.heap.size (by simp)).trans (heap_alloc_new w _)
  have hz2 : w.heap.size + 1 ≤ w2.heap.size := by have := hb2.size; simp at this; omega
  have hk : ∀ o, obj (w2.alloc o) w.heap.size #[.string ⟨#[]⟩, .string ⟨#[]⟩, .int .i64 0, .slice none 0 0] 24 := fun o => (heap_alloc_old w2 o (by omega)).trans hr
  have r0 := fun o => cells_of_heap (hk o) 0
  have f0 := fun o => free_of_heap (hk o) 0
  have r1 := fun o => cells_of_heap (hk o) 1
  have f1 := fun o => free_of_heap (hk o) 1
  have r2 := fun o => cells_of_heap (hk o) 2
  have f2 := fun o => free_of_heap (hk o) 2
  have r3 := fun o => cells_of_heap (hk o) 3
  have f3 := fun o => free_of_heap (hk o) 3
  have HK := Lib.hid hk
  have HP := Lib.hid hp
  have HB2 := Lib.hid hb2
  have HZ2 := Lib.hid hz2
  clear hr hk hp hb2 hz2
  go_wp2_with fail
  show bodyPost _ _ _ .ret _ (put4 (w2.alloc (.cells #[c0, c1, c2, c3] 24)) w.heap.size (.string ⟨#[108, 101, 110]⟩) (.string ⟨#[]⟩) (.int .i64 0) (.slice (some ⟨w2.heap.size, 0, none⟩) 1 1))
  have hz := HZ2.out
  have hg := grown_trans (World.grownBy_alloc w2 (.cells #[c0, c1, c2, c3] 24) (some w.heap.size)) (put4_grown (w2.alloc (.cells #[c0, c1, c2, c3] 24)) w.heap.size (.string ⟨#[108, 101, 110]⟩) (.string ⟨#[]⟩) (.int .i64 0) (.slice (some ⟨w2.heap.size, 0, none⟩) 1 1))
  refine bodyPost_ret (posof_results rfl (put4_heap (HK.out _) _ _ _ _)) rfl ⟨_, _, _, _, rfl, ?_, below_row ((below_alloc w _).trans (HB2.out.mono (below_alloc w _).size)) hg (Nat.le_refl _)⟩
  refine one_pos (P := From w) ⟨#[108, 101, 110]⟩ (by decide) ((HP.out.grown hg fun b' _ hb e => ?_).mono fun b' _ hb => ?_) ?_ ?_ 1
  · have h1 : (w.alloc _).heap.size ≤ b' := hb
    have h2 : b' = w.heap.size := by simpa using e
    simp at h1
    omega
  · have h1 : (w.alloc _).heap.size ≤ b' := hb
    show w.heap.size ≤ b'
    simp at h1
    omega
  · show w.heap.size ≤ w2.heap.size
    omega
  · exact ((put4_grown (w2.alloc (.cells #[c0, c1, c2, c3] 24)) w.heap.size _ _ _ _).block w2.heap.size (by simp) (by simp; omega)).trans (heap_alloc_new w2 _)
end Go.Proofs.YtkcpfgnfhbbhhaaDoor.po
