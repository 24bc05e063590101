/-
  The sort of an expression: laws.posSort at places, ends, sums. Conditions: in the statements.
-/
import Derived.Test.YtkcpfgnfhbbhhaaDoorPosR
set_option linter.unusedVariables false
set_option linter.unusedSimpArgs false
namespace Go.Proofs.YtkcpfgnfhbbhhaaDoor.po
open Go.RowKit

set_option maxHeartbeats 4000000 in
set_option maxRecDepth 100000 in
theorem sort_pos {W : World} {K N want : ByteArray} {n : Int} {l : List PT} {p : Option Addr} {cap : Nat} (h : Asked W K N want n l p) (hk : K.data.toList = kPos) :
    Calls Tryd.prog 6 #[.agg #[.string K, .string N, .int .i64 n, .slice p l.length cap], .string want] W (fun e W' => Sorted (.mk K.data.toList N.data.toList n l) want.data.toList W.heap.size W e W') := by
  have hd1 : (K.toList == [118, 97, 114]) = false := by rw [str_is, hk]; decide
  have hd2 : (K.toList == [105, 110, 116]) = false := by rw [str_is, hk]; decide
  have hd3 : (K.toList == [112, 111, 115]) = true := by rw [str_is, hk]; decide
  have hd4 : (K.toList == [101, 110, 100]) = false := by rw [str_is, hk]; decide
  have hd5 : (K.toList == [97, 100, 100]) = false := by rw [str_is, hk]; decide
  have hd6 : (K.toList == [99, 104, 111, 105, 99, 101]) = false := by rw [str_is, hk]; decide
  have hd7 : (K.toList == [110, 111, 100, 101, 115]) = false := by rw [str_is, hk]; decide
  have hd8 : (K.toList == [105, 110, 100, 101, 120]) = false := by rw [str_is, hk]; decide
  have hd9 : (K.toList == [108, 97, 115, 116]) = false := by rw [str_is, hk]; decide
  have hd10 : (K.toList == [108, 101, 110]) = false := by rw [str_is, hk]; decide
  have hd11 : (K.toList == [105, 102]) = false := by rw [str_is, hk]; decide
  obtain ⟨W1, hW1⟩ : ∃ W1, W1 = W.alloc (.cells #[.string K, .string N, .int .i64 n, .slice p l.length cap] 24) := ⟨_, rfl⟩
  have HX : Hid (W1.heap[W.heap.size]? = some (.cells #[.string K, .string N, .int .i64 n, .slice p l.length cap] 24 (0, 0))) := by rw [hW1]; exact heap_alloc_new W _
  have HB1 : Hid (Below W.heap.size W W1) := by rw [hW1]; exact below_alloc W _
  have HW1 := Lib.hid hW1
  have HC : Hid (∀ (W2 : World) (i : Nat) (sort : ByteArray), Below W1.heap.size W1 W2 → sort.size ≤ 1 → i ≤ maxLen → Calls Tryd.prog 11 #[.int .i64 (i : Int), .string sort, .pointer (some ⟨W.heap.size, 0, none⟩)] W2 (IsPost l i sort.data.toList W2)) := fun W2 i sort hb h1 h2 => is_any ((hb.block _ (lt_of_heap HX.out)).trans HX.out) ((h.args.on HB1.out).on hb) h.ih h.len h1 i h2
  clear hW1
  have HK := Lib.hid hk
  clear hk
  obtain ⟨m, hm⟩ : ∃ m, m = l.length := ⟨_, rfl⟩
  have HM := Lib.hid hm
  rw [← hm] at HW1 ⊢
  clear hm
  have HX3 : Hid (∀ W2, Below W1.heap.size W1 W2 → W2.cell? ⟨W.heap.size, 3, none⟩ = some (.slice p m cap)) := fun W2 hb => ((hb.cell (p := ⟨W.heap.size, 3, none⟩) (lt_of_heap HX.out)).trans (cells_of_heap HX.out 3)).trans (by rw [HM.out]; rfl)
  by_cases hn : n = 0
  · subst hn
    by_cases hm : m = 1
    · subst hm
      clear h
      go_enter Tryd.func6, Tryd.ntmps6
      go_wp2_with (first | (rw [← HW1.out]; go_at_call 11; refine (HC.out _ 0 _ (Below.refl _ _) (by decide) (by decide)).mono ?_; rintro e w2 ⟨b0, rfl, hb1, hb2⟩; have HS0 := Lib.hid hb1; have HB2 := Lib.hid hb2; have HB := Lib.hid (HB1.out.trans (hb2.mono HB1.out.size)); have y3 : World.cell? _ ⟨W.heap.size, 3, none⟩ = _ := HX3.out _ HB2.out; clear hb1 hb2))
      all_goals try go_ret
      all_goals first | (rw [← HW1.out]; exact .no HB1.out) | exact .no HB.out | skip
      refine .mk (fun e => ?_) HB.out
      obtain ⟨a, rfl, ha⟩ := (HS0.out e).one HM.out.symm
      rw [HK.out, lst_eq ‹want.toList = _›, emp_eq ‹N.toList = []›]
      exact .pos _ _ (.inl rfl) ha
    · have hm2 : ¬ (m : Int) = 1 := by omega
      clear h
      go_enter Tryd.func6, Tryd.ntmps6
      go_wp2_with fail
      all_goals go_ret
      all_goals (rw [← HW1.out]; exact .no HB1.out)
  · clear h
    go_enter Tryd.func6, Tryd.ntmps6
    go_wp2_with fail
    all_goals go_ret
    all_goals (rw [← HW1.out]; exact .no HB1.out)
set_option maxHeartbeats 4000000 in
set_option maxRecDepth 100000 in
theorem sort_end {W : World} {K N want : ByteArray} {n : Int} {l : List PT} {p : Option Addr} {cap : Nat} (h : Asked W K N want n l p) (hk : K.data.toList = kEnd) :
    Calls Tryd.prog 6 #[.agg #[.string K, .string N, .int .i64 n, .slice p l.length cap], .string want] W (fun e W' => Sorted (.mk K.data.toList N.data.toList n l) want.data.toList W.heap.size W e W') := by
  have hd1 : (K.toList == [118, 97, 114]) = false := by rw [str_is, hk]; decide
  have hd2 : (K.toList == [105, 110, 116]) = false := by rw [str_is, hk]; decide
  have hd3 : (K.toList == [112, 111, 115]) = false := by rw [str_is, hk]; decide
  have hd4 : (K.toList == [101, 110, 100]) = true := by rw [str_is, hk]; decide
  have hd5 : (K.toList == [97, 100, 100]) = false := by rw [str_is, hk]; decide
  have hd6 : (K.toList == [99, 104, 111, 105, 99, 101]) = false := by rw [str_is, hk]; decide
  have hd7 : (K.toList == [110, 111, 100, 101, 115]) = false := by rw [str_is, hk]; decide
  have hd8 : (K.toList == [105, 110, 100, 101, 120]) = false := by rw [str_is, hk]; decide
  have hd9 : (K.toList == [108, 97, 115, 116]) = false := by rw [str_is, hk]; decide
  have hd10 : (K.toList == [108, 101, 110]) = false := by rw [str_is, hk]; decide
  have hd11 : (K.toList == [105, 102]) = false := by rw [str_is, hk]; decide
  obtain ⟨W1, hW1⟩ : ∃ W1, W1 = W.alloc (.cells #[.string K, .string N, .int .i64 n, .slice p l.length cap] 24) := ⟨_, rfl⟩
  have HX : Hid (W1.heap[W.heap.size]? = some (.cells #[.string K, .string N, .int .i64 n, .slice p l.length cap] 24 (0, 0))) := by rw [hW1]; exact heap_alloc_new W _
  have HB1 : Hid (Below W.heap.size W W1) := by rw [hW1]; exact below_alloc W _
  have HW1 := Lib.hid hW1
  have HC : Hid (∀ (W2 : World) (i : Nat) (sort : ByteArray), Below W1.heap.size W1 W2 → sort.size ≤ 1 → i ≤ maxLen → Calls Tryd.prog 11 #[.int .i64 (i : Int), .string sort, .pointer (some ⟨W.heap.size, 0, none⟩)] W2 (IsPost l i sort.data.toList W2)) := fun W2 i sort hb h1 h2 => is_any ((hb.block _ (lt_of_heap HX.out)).trans HX.out) ((h.args.on HB1.out).on hb) h.ih h.len h1 i h2
  clear hW1
  have HK := Lib.hid hk
  clear hk
  obtain ⟨m, hm⟩ : ∃ m, m = l.length := ⟨_, rfl⟩
  have HM := Lib.hid hm
  rw [← hm] at HW1 ⊢
  clear hm
  have HX3 : Hid (∀ W2, Below W1.heap.size W1 W2 → W2.cell? ⟨W.heap.size, 3, none⟩ = some (.slice p m cap)) := fun W2 hb => ((hb.cell (p := ⟨W.heap.size, 3, none⟩) (lt_of_heap HX.out)).trans (cells_of_heap HX.out 3)).trans (by rw [HM.out]; rfl)
  by_cases hn : n = 0
  · subst hn
    by_cases hm : m = 1
    · subst hm
      clear h
      go_enter Tryd.func6, Tryd.ntmps6
      go_wp2_with (first | (rw [← HW1.out]; go_at_call 11; refine (HC.out _ 0 _ (Below.refl _ _) (by decide) (by decide)).mono ?_; rintro e w2 ⟨b0, rfl, hb1, hb2⟩; have HS0 := Lib.hid hb1; have HB2 := Lib.hid hb2; have HB := Lib.hid (HB1.out.trans (hb2.mono HB1.out.size)); have y3 : World.cell? _ ⟨W.heap.size, 3, none⟩ = _ := HX3.out _ HB2.out; clear hb1 hb2))
      all_goals try go_ret
      all_goals first | (rw [← HW1.out]; exact .no HB1.out) | exact .no HB.out | skip
      refine .mk (fun e => ?_) HB.out
      obtain ⟨a, rfl, ha⟩ := (HS0.out e).one HM.out.symm
      rw [HK.out, lst_eq ‹want.toList = _›, emp_eq ‹N.toList = []›]
      exact .pos _ _ (.inr rfl) ha
    · have hm2 : ¬ (m : Int) = 1 := by omega
      clear h
      go_enter Tryd.func6, Tryd.ntmps6
      go_wp2_with fail
      all_goals go_ret
      all_goals (rw [← HW1.out]; exact .no HB1.out)
  · clear h
    go_enter Tryd.func6, Tryd.ntmps6
    go_wp2_with fail
    all_goals go_ret
    all_goals (rw [← HW1.out]; exact .no HB1.out)
set_option maxHeartbeats 4000000 in
set_option maxRecDepth 100000 in
theorem sort_add {W : World} {K N want : ByteArray} {n : Int} {l : List PT} {p : Option Addr} {cap : Nat} (h : Asked W K N want n l p) (hk : K.data.toList = kAdd) :
    Calls Tryd.prog 6 #[.agg #[.string K, .string N, .int .i64 n, .slice p l.length cap], .string want] W (fun e W' => Sorted (.mk K.data.toList N.data.toList n l) want.data.toList W.heap.size W e W') := by
  have hd1 : (K.toList == [118, 97, 114]) = false := by rw [str_is, hk]; decide
  have hd2 : (K.toList == [105, 110, 116]) = false := by rw [str_is, hk]; decide
  have hd3 : (K.toList == [112, 111, 115]) = false := by rw [str_is, hk]; decide
  have hd4 : (K.toList == [101, 110, 100]) = false := by rw [str_is, hk]; decide
  have hd5 : (K.toList == [97, 100, 100]) = true := by rw [str_is, hk]; decide
  have hd6 : (K.toList == [99, 104, 111, 105, 99, 101]) = false := by rw [str_is, hk]; decide
  have hd7 : (K.toList == [110, 111, 100, 101, 115]) = false := by rw [str_is, hk]; decide
  have hd8 : (K.toList == [105, 110, 100, 101, 120]) = false := by rw [str_is, hk]; decide
  have hd9 : (K.toList == [108, 97, 115, 116]) = false := by rw [str_is, hk]; decide
  have hd10 : (K.toList == [108, 101, 110]) = false := by rw [str_is, hk]; decide
  have hd11 : (K.toList == [105, 102]) = false := by rw [str_is, hk]; decide
  obtain ⟨W1, hW1⟩ : ∃ W1, W1 = W.alloc (.cells #[.string K, .string N, .int .i64 n, .slice p l.length cap] 24) := ⟨_, rfl⟩
  have HX : Hid (W1.heap[W.heap.size]? = some (.cells #[.string K, .string N, .int .i64 n, .slice p l.length cap] 24 (0, 0))) := by rw [hW1]; exact heap_alloc_new W _
  have HB1 : Hid (Below W.heap.size W W1) := by rw [hW1]; exact below_alloc W _
  have HW1 := Lib.hid hW1
  have HC : Hid (∀ (W2 : World) (i : Nat) (sort : ByteArray), Below W1.heap.size W1 W2 → sort.size ≤ 1 → i ≤ maxLen → Calls Tryd.prog 11 #[.int .i64 (i : Int), .string sort, .pointer (some ⟨W.heap.size, 0, none⟩)] W2 (IsPost l i sort.data.toList W2)) := fun W2 i sort hb h1 h2 => is_any ((hb.block _ (lt_of_heap HX.out)).trans HX.out) ((h.args.on HB1.out).on hb) h.ih h.len h1 i h2
  clear hW1
  have HK := Lib.hid hk
  clear hk
  obtain ⟨m, hm⟩ : ∃ m, m = l.length := ⟨_, rfl⟩
  have HM := Lib.hid hm
  rw [← hm] at HW1 ⊢
  clear hm
  have HX3 : Hid (∀ W2, Below W1.heap.size W1 W2 → W2.cell? ⟨W.heap.size, 3, none⟩ = some (.slice p m cap)) := fun W2 hb => ((hb.cell (p := ⟨W.heap.size, 3, none⟩) (lt_of_heap HX.out)).trans (cells_of_heap HX.out 3)).trans (by rw [HM.out]; rfl)
  by_cases hn : n = 0
  · subst hn
    by_cases hm : m = 2
    · subst hm
      obtain ⟨ab, ao, K0, rfl, hab, hk0, hc0⟩ := h.args.kind 0 (by have := HM.out; omega)
      have HK0 : Hid (∀ W2, Below W.heap.size W W2 → W2.cell? ⟨ab, ao, none⟩ = some (.string K0)) := fun W2 hb => (hb.cell (p := ⟨ab, ao, none⟩) hab).trans (by simpa using hc0)
      have HK1 := Lib.hid hk0
      clear h hab hk0 hc0
      go_enter Tryd.func6, Tryd.ntmps6
      go_wp2_with (first | (go_at_call 11; refine (HC.out _ 1 _ HB2.out (by decide) (by decide)).mono ?_; rintro e w3 ⟨b1, rfl, hb1, hb2⟩; have HS1 := Lib.hid hb1; have HB3 := Lib.hid (HB2.out.trans (hb2.mono HB2.out.size)); have HB := Lib.hid (HB1.out.trans (HB3.out.mono HB1.out.size)); have y3 : World.cell? _ ⟨W.heap.size, 3, none⟩ = _ := HX3.out _ HB3.out; have x0 := HK0.out _ HB.out; clear hb1 hb2) | (rw [← HW1.out]; go_at_call 11; refine (HC.out _ 0 _ (Below.refl _ _) (by decide) (by decide)).mono ?_; rintro e w2 ⟨b0, rfl, hb1, hb2⟩; have HS0 := Lib.hid hb1; have HB2 := Lib.hid hb2; have HB := Lib.hid (HB1.out.trans (hb2.mono HB1.out.size)); have y3 : World.cell? _ ⟨W.heap.size, 3, none⟩ = _ := HX3.out _ HB2.out; clear hb1 hb2))
      all_goals try go_ret
      all_goals first | (rw [← HW1.out]; exact .no HB1.out) | exact .no HB.out | skip
      refine .mk (fun e => ?_) HB.out
      obtain ⟨a, b, rfl, ha, hb⟩ := (HS0.out (by first | rfl | assumption)).two (HS1.out (by first | rfl | assumption)) HM.out.symm
      rw [HK.out, lst_eq ‹want.toList = _›, emp_eq ‹N.toList = []›]
      exact .add a b ha (by rw [← show K0.data.toList = a.kind from HK1.out]; exact ne_of (by simpa [kChoice] using e)) hb
    · have hm2 : ¬ (m : Int) = 2 := by omega
      clear h
      go_enter Tryd.func6, Tryd.ntmps6
      go_wp2_with fail
      all_goals go_ret
      all_goals (rw [← HW1.out]; exact .no HB1.out)
  · clear h
    go_enter Tryd.func6, Tryd.ntmps6
    go_wp2_with fail
    all_goals go_ret
    all_goals (rw [← HW1.out]; exact .no HB1.out)
end Go.Proofs.YtkcpfgnfhbbhhaaDoor.po
