/-
  The sort of an expression: laws.posSort at choices of places and of nodes. Conditions: in the statements.
-/
import Derived.Test.YtkcpfgnfhbbhhaaDoorPosR
set_option linter.unusedVariables false
set_option linter.unusedSimpArgs false
namespace Go.Proofs.YtkcpfgnfhbbhhaaDoor.po
open Go.RowKit
theorem all_of {l : List PT} {i : Nat} {P Q : PT → Prop} (h : ∀ j, j < i → ∃ h : j < l.length, P l[j] ∧ Q l[j]) (hm : i = l.length) : ∀ x ∈ l, P x ∧ Q x := fun x hx => by
  obtain ⟨j, hj, rfl⟩ := List.getElem_of_mem hx
  obtain ⟨_, h2⟩ := h j (by omega)
  exact h2
set_option maxHeartbeats 4000000 in
set_option maxRecDepth 100000 in
theorem sort_choice {W : World} {K N want : ByteArray} {n : Int} {l : List PT} {p : Option Addr} {cap : Nat} (h : Asked W K N want n l p) (hk : K.data.toList = kChoice) :
    Calls Tryd.prog 6 #[.agg #[.string K, .string N, .int .i64 n, .slice p l.length cap], .string want] W (fun e W' => Sorted (.mk K.data.toList N.data.toList n l) want.data.toList W.heap.size W e W') := by
  have hd1 : (K.toList == [118, 97, 114]) = false := by rw [str_is, hk]; decide
  have hd2 : (K.toList == [105, 110, 116]) = false := by rw [str_is, hk]; decide
  have hd3 : (K.toList == [112, 111, 115]) = false := by rw [str_is, hk]; decide
  have hd4 : (K.toList == [101, 110, 100]) = false := by rw [str_is, hk]; decide
  have hd5 : (K.toList == [97, 100, 100]) = false := by rw [str_is, hk]; decide
  have hd6 : (K.toList == [99, 104, 111, 105, 99, 101]) = true := by rw [str_is, hk]; decide
  have hd7 : (K.toList == [110, 111, 100, 101, 115]) = false := by rw [str_is, hk]; decide
  have hd8 : (K.toList == [105, 110, 100, 101, 120]) = false := by rw [str_is, hk]; decide
  have hd9 : (K.toList == [108, 97, 115, 116]) = false := by rw [str_is, hk]; decide
  have hd10 : (K.toList == [108, 101, 110]) = false := by rw [str_is, hk]; decide
  have hd11 : (K.toList == [105, 102]) = false := by rw [str_is, hk]; decide
  obtain ⟨W1, hW1⟩ : ∃ W1, W1 = W.alloc (.cells #[.string K, .string N, .int .i64 n, .slice p l.length cap] 24) := ⟨_, rfl⟩
  have HX : Hid (W1.heap[W.heap.size]? = some (.cells #[.string K, .string N, .int .i64 n, .slice p l.length cap] 24 (0, 0))) := by rw [hW1]; exact heap_alloc_new W _
  have HB1 : Hid (Below W.heap.size W W1) := by rw [hW1]; exact below_alloc W _
  have HW1 := Lib.hid hW1
  have HC : Hid (∀ (W2 : World) (i : Nat) (sort : ByteArray), Below W1.heap.size W1 W2 → sort.size ≤ 1 → i ≤ maxLen → Calls Tryd.prog 11 #[.int .i64 (i : Int), .string sort, .pointer (some ⟨W.heap.size, 0, none⟩)] W2 (IsPost l i sort.data.toList W2)) := fun W2 i sort hb h1 h2 => is_any ((hb.block _ (lt_of_heap HX.out)).trans HX.out) ((h.args.on HB1.out).on hb) h.ih h.len h1 i h2
  clear hW1
  have HK := Lib.hid hk
  clear hk
  obtain ⟨m, hm⟩ : ∃ m, m = l.length := ⟨_, rfl⟩
  have HM := Lib.hid hm
  rw [← hm] at HW1 ⊢
  clear hm
  have HA := Lib.hid (h.args.on HB1.out)
  have hmm : m ≤ 9223372036854775807 := by have := h.len; have h2 := HM.out; unfold maxLen at this; omega
  have HI : Hid (m ≤ maxLen) := by rw [show m = l.length from HM.out]; exact h.len
  have HX3 : Hid (∀ W2, Below W1.heap.size W1 W2 → W2.cell? ⟨W.heap.size, 3, none⟩ = some (.slice p m cap)) := fun W2 hb => ((hb.cell (p := ⟨W.heap.size, 3, none⟩) (lt_of_heap HX.out)).trans (cells_of_heap HX.out 3)).trans (by rw [HM.out]; rfl)
  have HX2 : Hid (∀ W2, Below W1.heap.size W1 W2 → W2.cell? ⟨W.heap.size, 2, none⟩ = some (.int .i64 n)) := fun W2 hb => (hb.cell (p := ⟨W.heap.size, 2, none⟩) (lt_of_heap HX.out)).trans (cells_of_heap HX.out 2)
  have HX1 : Hid (∀ W2, Below W1.heap.size W1 W2 → W2.cell? ⟨W.heap.size, 1, none⟩ = some (.string N)) := fun W2 hb => (hb.cell (p := ⟨W.heap.size, 1, none⟩) (lt_of_heap HX.out)).trans (cells_of_heap HX.out 1)
  clear h
  cases hN : N.toList.isEmpty with
  | false =>
    by_cases hn : n = 0
    · subst hn
      go_enter Tryd.func6, Tryd.ntmps6
      go_wp2_with fail
      rw [← HW1.out]
      go_loopw [128] (fun iv wr => ∃ i : Nat, i ≤ m ∧ iv = .int .i64 (i : Int) ∧ Hid (Below W1.heap.size W1 wr) ∧ Hid (∀ j, j < i → ∃ h : j < l.length, S sP l[j] ∧ l[j].kind ≠ kChoice)) (fun iv _ => m - (intOf iv).toNat)
      case atStart => exact ⟨0, Nat.zero_le _, rfl, Below.refl _ _, fun j hj => by omega⟩
      case round =>
        rename World => wo
        obtain ⟨i, hi, rfl, HO, HP⟩ := hrel
        have HB0 := Lib.hid (HB1.out.trans (HO.out.mono HB1.out.size))
        have x3 := HX3.out wo HO.out
        by_cases hlt : i < m
        · have hz : (i : Int) < (m : Int) := by omega
          have hil : i < l.length := by have := HM.out; omega
          obtain ⟨b, o, K0, rfl, hbl, hk0, hc0⟩ := HA.out.kind i hil
          have HK0 : Hid (∀ W2, Below W1.heap.size W1 W2 → W2.cell? ⟨b, o + i * 4, none⟩ = some (.string K0)) := fun W2 hb => (hb.cell (p := ⟨b, _, none⟩) hbl).trans hc0
          have HK1 := Lib.hid hk0
          clear hbl hk0 hc0
          go_wp2_with (go_at_call 11; refine (HC.out _ i _ HO.out (by decide) (Nat.le_trans hi HI.out)).mono ?_; rintro e w2 ⟨b0, rfl, hb1, hb2⟩; have HS0 := Lib.hid hb1; have HB2 := Lib.hid (HO.out.trans (hb2.mono HO.out.size)); have HB := Lib.hid (HB1.out.trans (HB2.out.mono HB1.out.size)); have y3 := HX3.out _ HB2.out; have x0 := HK0.out _ HB2.out; clear hb1 hb2)
          all_goals try go_ret
          all_goals first | exact .no HB.out | skip
          exact ⟨⟨i + 1, by omega, by go_num, HB2.out, fun j hj => by
            rcases Nat.lt_or_ge j i with h4 | h4
            · exact HP.out j h4
            · have e : j = i := by omega
              subst e
              obtain ⟨h5, h6⟩ := HS0.out (by first | rfl | assumption)
              exact ⟨h5, h6, by rw [← HK1.out]; exact ne_of (by simpa [kChoice] using ‹(K0.toList == _) = false›)⟩⟩, by simp [intOf]; omega⟩
        · have hz : ¬ (i : Int) < (m : Int) := by omega
          have him : i = m := by omega
          subst him
          have x2 := HX2.out wo HO.out
          have x1 := HX1.out wo HO.out
          go_wp2_with fail
          all_goals try go_ret
          all_goals first | exact .no HB0.out | skip
          all_goals refine .mk (fun e => ?_) HB0.out
          all_goals have h1 : 1 < i := by have := of_decide_eq_true e; omega
          all_goals rw [HK.out, lst_eq ‹want.toList = _›, emp_eq (by simpa using hN)]
          all_goals exact .choice l (by have := HM.out; omega) (fun x hx => (all_of (P := S sP) (Q := fun x => x.kind ≠ kChoice) HP.out HM.out x hx).1) (fun x hx => (all_of (P := S sP) (Q := fun x => x.kind ≠ kChoice) HP.out HM.out x hx).2)
    · skip
      go_enter Tryd.func6, Tryd.ntmps6
      go_wp2_with fail
      rw [← HW1.out]
      go_loopw [128] (fun iv wr => ∃ i : Nat, i ≤ m ∧ iv = .int .i64 (i : Int) ∧ Hid (Below W1.heap.size W1 wr) ∧ Hid (∀ j, j < i → ∃ h : j < l.length, S sP l[j] ∧ l[j].kind ≠ kChoice)) (fun iv _ => m - (intOf iv).toNat)
      case atStart => exact ⟨0, Nat.zero_le _, rfl, Below.refl _ _, fun j hj => by omega⟩
      case round =>
        rename World => wo
        obtain ⟨i, hi, rfl, HO, HP⟩ := hrel
        have HB0 := Lib.hid (HB1.out.trans (HO.out.mono HB1.out.size))
        have x3 := HX3.out wo HO.out
        by_cases hlt : i < m
        · have hz : (i : Int) < (m : Int) := by omega
          have hil : i < l.length := by have := HM.out; omega
          obtain ⟨b, o, K0, rfl, hbl, hk0, hc0⟩ := HA.out.kind i hil
          have HK0 : Hid (∀ W2, Below W1.heap.size W1 W2 → W2.cell? ⟨b, o + i * 4, none⟩ = some (.string K0)) := fun W2 hb => (hb.cell (p := ⟨b, _, none⟩) hbl).trans hc0
          have HK1 := Lib.hid hk0
          clear hbl hk0 hc0
          go_wp2_with (go_at_call 11; refine (HC.out _ i _ HO.out (by decide) (Nat.le_trans hi HI.out)).mono ?_; rintro e w2 ⟨b0, rfl, hb1, hb2⟩; have HS0 := Lib.hid hb1; have HB2 := Lib.hid (HO.out.trans (hb2.mono HO.out.size)); have HB := Lib.hid (HB1.out.trans (HB2.out.mono HB1.out.size)); have y3 := HX3.out _ HB2.out; have x0 := HK0.out _ HB2.out; clear hb1 hb2)
          all_goals try go_ret
          all_goals first | exact .no HB.out | skip
          exact ⟨⟨i + 1, by omega, by go_num, HB2.out, fun j hj => by
            rcases Nat.lt_or_ge j i with h4 | h4
            · exact HP.out j h4
            · have e : j = i := by omega
              subst e
              obtain ⟨h5, h6⟩ := HS0.out (by first | rfl | assumption)
              exact ⟨h5, h6, by rw [← HK1.out]; exact ne_of (by simpa [kChoice] using ‹(K0.toList == _) = false›)⟩⟩, by simp [intOf]; omega⟩
        · have hz : ¬ (i : Int) < (m : Int) := by omega
          have him : i = m := by omega
          subst him
          have x2 := HX2.out wo HO.out
          have x1 := HX1.out wo HO.out
          go_wp2_with fail
          all_goals try go_ret
          all_goals first | exact .no HB0.out | skip
          all_goals refine .mk (fun e => ?_) HB0.out
          all_goals have h1 : 1 < i := by have := of_decide_eq_true e; omega
          all_goals rw [HK.out, lst_eq ‹want.toList = _›, emp_eq (by simpa using hN)]
          all_goals exact .choice l (by have := HM.out; omega) (fun x hx => (all_of (P := S sP) (Q := fun x => x.kind ≠ kChoice) HP.out HM.out x hx).1) (fun x hx => (all_of (P := S sP) (Q := fun x => x.kind ≠ kChoice) HP.out HM.out x hx).2)
  | true =>
    by_cases hn : n = 0
    · subst hn
      go_enter Tryd.func6, Tryd.ntmps6
      go_wp2_with fail
      rw [← HW1.out]
      go_loopw [128] (fun iv wr => ∃ i : Nat, i ≤ m ∧ iv = .int .i64 (i : Int) ∧ Hid (Below W1.heap.size W1 wr) ∧ Hid (∀ j, j < i → ∃ h : j < l.length, S sP l[j] ∧ l[j].kind ≠ kChoice)) (fun iv _ => m - (intOf iv).toNat)
      case atStart => exact ⟨0, Nat.zero_le _, rfl, Below.refl _ _, fun j hj => by omega⟩
      case round =>
        rename World => wo
        obtain ⟨i, hi, rfl, HO, HP⟩ := hrel
        have HB0 := Lib.hid (HB1.out.trans (HO.out.mono HB1.out.size))
        have x3 := HX3.out wo HO.out
        by_cases hlt : i < m
        · have hz : (i : Int) < (m : Int) := by omega
          have hil : i < l.length := by have := HM.out; omega
          obtain ⟨b, o, K0, rfl, hbl, hk0, hc0⟩ := HA.out.kind i hil
          have HK0 : Hid (∀ W2, Below W1.heap.size W1 W2 → W2.cell? ⟨b, o + i * 4, none⟩ = some (.string K0)) := fun W2 hb => (hb.cell (p := ⟨b, _, none⟩) hbl).trans hc0
          have HK1 := Lib.hid hk0
          clear hbl hk0 hc0
          go_wp2_with (go_at_call 11; refine (HC.out _ i _ HO.out (by decide) (Nat.le_trans hi HI.out)).mono ?_; rintro e w2 ⟨b0, rfl, hb1, hb2⟩; have HS0 := Lib.hid hb1; have HB2 := Lib.hid (HO.out.trans (hb2.mono HO.out.size)); have HB := Lib.hid (HB1.out.trans (HB2.out.mono HB1.out.size)); have y3 := HX3.out _ HB2.out; have x0 := HK0.out _ HB2.out; clear hb1 hb2)
          all_goals try go_ret
          all_goals first | exact .no HB.out | skip
          exact ⟨⟨i + 1, by omega, by go_num, HB2.out, fun j hj => by
            rcases Nat.lt_or_ge j i with h4 | h4
            · exact HP.out j h4
            · have e : j = i := by omega
              subst e
              obtain ⟨h5, h6⟩ := HS0.out (by first | rfl | assumption)
              exact ⟨h5, h6, by rw [← HK1.out]; exact ne_of (by simpa [kChoice] using ‹(K0.toList == _) = false›)⟩⟩, by simp [intOf]; omega⟩
        · have hz : ¬ (i : Int) < (m : Int) := by omega
          have him : i = m := by omega
          subst him
          have x2 := HX2.out wo HO.out
          have x1 := HX1.out wo HO.out
          go_wp2_with fail
          all_goals try go_ret
          all_goals first | exact .no HB0.out | skip
          all_goals refine .mk (fun e => ?_) HB0.out
          all_goals have h1 : 1 < i := by have := of_decide_eq_true e; omega
          all_goals rw [HK.out, lst_eq ‹want.toList = _›, emp_eq (by simpa using hN)]
          all_goals exact .choice l (by have := HM.out; omega) (fun x hx => (all_of (P := S sP) (Q := fun x => x.kind ≠ kChoice) HP.out HM.out x hx).1) (fun x hx => (all_of (P := S sP) (Q := fun x => x.kind ≠ kChoice) HP.out HM.out x hx).2)
    · skip
      go_enter Tryd.func6, Tryd.ntmps6
      go_wp2_with fail
      rw [← HW1.out]
      go_loopw [128] (fun iv wr => ∃ i : Nat, i ≤ m ∧ iv = .int .i64 (i : Int) ∧ Hid (Below W1.heap.size W1 wr) ∧ Hid (∀ j, j < i → ∃ h : j < l.length, S sP l[j] ∧ l[j].kind ≠ kChoice)) (fun iv _ => m - (intOf iv).toNat)
      case atStart => exact ⟨0, Nat.zero_le _, rfl, Below.refl _ _, fun j hj => by omega⟩
      case round =>
        rename World => wo
        obtain ⟨i, hi, rfl, HO, HP⟩ := hrel
        have HB0 := Lib.hid (HB1.out.trans (HO.out.mono HB1.out.size))
        have x3 := HX3.out wo HO.out
        by_cases hlt : i < m
        · have hz : (i : Int) < (m : Int) := by omega
          have hil : i < l.length := by have := HM.out; omega
          obtain ⟨b, o, K0, rfl, hbl, hk0, hc0⟩ := HA.out.kind i hil
          have HK0 : Hid (∀ W2, Below W1.heap.size W1 W2 → W2.cell? ⟨b, o + i * 4, none⟩ = some (.string K0)) := fun W2 hb => (hb.cell (p := ⟨b, _, none⟩) hbl).trans hc0
          have HK1 := Lib.hid hk0
          clear hbl hk0 hc0
          go_wp2_with (go_at_call 11; refine (HC.out _ i _ HO.out (by decide) (Nat.le_trans hi HI.out)).mono ?_; rintro e w2 ⟨b0, rfl, hb1, hb2⟩; have HS0 := Lib.hid hb1; have HB2 := Lib.hid (HO.out.trans (hb2.mono HO.out.size)); have HB := Lib.hid (HB1.out.trans (HB2.out.mono HB1.out.size)); have y3 := HX3.out _ HB2.out; have x0 := HK0.out _ HB2.out; clear hb1 hb2)
          all_goals try go_ret
          all_goals first | exact .no HB.out | skip
          exact ⟨⟨i + 1, by omega, by go_num, HB2.out, fun j hj => by
            rcases Nat.lt_or_ge j i with h4 | h4
            · exact HP.out j h4
            · have e : j = i := by omega
              subst e
              obtain ⟨h5, h6⟩ := HS0.out (by first | rfl | assumption)
              exact ⟨h5, h6, by rw [← HK1.out]; exact ne_of (by simpa [kChoice] using ‹(K0.toList == _) = false›)⟩⟩, by simp [intOf]; omega⟩
        · have hz : ¬ (i : Int) < (m : Int) := by omega
          have him : i = m := by omega
          subst him
          have x2 := HX2.out wo HO.out
          have x1 := HX1.out wo HO.out
          go_wp2_with fail
          all_goals try go_ret
          all_goals first | exact .no HB0.out | skip
          all_goals refine .mk (fun e => ?_) HB0.out
          all_goals have h1 : 1 < i := by have := of_decide_eq_true e; omega
          all_goals rw [HK.out, lst_eq ‹want.toList = _›, emp_eq (by simpa using hN)]
          all_goals exact .choice l (by have := HM.out; omega) (fun x hx => (all_of (P := S sP) (Q := fun x => x.kind ≠ kChoice) HP.out HM.out x hx).1) (fun x hx => (all_of (P := S sP) (Q := fun x => x.kind ≠ kChoice) HP.out HM.out x hx).2)
set_option maxHeartbeats 4000000 in
set_option maxRecDepth 100000 in
theorem sort_nodes {W : World} {K N want : ByteArray} {n : Int} {l : List PT} {p : Option Addr} {cap : Nat} (h : Asked W K N want n l p) (hk : K.data.toList = kNodes) :
    Calls Tryd.prog 6 #[.agg #[.string K, .string N, .int .i64 n, .slice p l.length cap], .string want] W (fun e W' => Sorted (.mk K.data.toList N.data.toList n l) want.data.toList W.heap.size W e W') := by
  have hd1 : (K.toList == [118, 97, 114]) = false := by rw [str_is, hk]; decide
  have hd2 : (K.toList == [105, 110, 116]) = false := by rw [str_is, hk]; decide
  have hd3 : (K.toList == [112, 111, 115]) = false := by rw [str_is, hk]; decide
  have hd4 : (K.toList == [101, 110, 100]) = false := by rw [str_is, hk]; decide
  have hd5 : (K.toList == [97, 100, 100]) = false := by rw [str_is, hk]; decide
  have hd6 : (K.toList == [99, 104, 111, 105, 99, 101]) = false := by rw [str_is, hk]; decide
  have hd7 : (K.toList == [110, 111, 100, 101, 115]) = true := by rw [str_is, hk]; decide
  have hd8 : (K.toList == [105, 110, 100, 101, 120]) = false := by rw [str_is, hk]; decide
  have hd9 : (K.toList == [108, 97, 115, 116]) = false := by rw [str_is, hk]; decide
  have hd10 : (K.toList == [108, 101, 110]) = false := by rw [str_is, hk]; decide
  have hd11 : (K.toList == [105, 102]) = false := by rw [str_is, hk]; decide
  obtain ⟨W1, hW1⟩ : ∃ W1, W1 = W.alloc (.cells #[.string K, .string N, .int .i64 n, .slice p l.length cap] 24) := ⟨_, rfl⟩
  have HX : Hid (W1.heap[W.heap.size]? = some (.cells #[.string K, .string N, .int .i64 n, .slice p l.length cap] 24 (0, 0))) := by rw [hW1]; exact heap_alloc_new W _
  have HB1 : Hid (Below W.heap.size W W1) := by rw [hW1]; exact below_alloc W _
  have HW1 := Lib.hid hW1
  have HC : Hid (∀ (W2 : World) (i : Nat) (sort : ByteArray), Below W1.heap.size W1 W2 → sort.size ≤ 1 → i ≤ maxLen → Calls Tryd.prog 11 #[.int .i64 (i : Int), .string sort, .pointer (some ⟨W.heap.size, 0, none⟩)] W2 (IsPost l i sort.data.toList W2)) := fun W2 i sort hb h1 h2 => is_any ((hb.block _ (lt_of_heap HX.out)).trans HX.out) ((h.args.on HB1.out).on hb) h.ih h.len h1 i h2
  clear hW1
  have HK := Lib.hid hk
  clear hk
  obtain ⟨m, hm⟩ : ∃ m, m = l.length := ⟨_, rfl⟩
  have HM := Lib.hid hm
  rw [← hm] at HW1 ⊢
  clear hm
  have HA := Lib.hid (h.args.on HB1.out)
  have hmm : m ≤ 9223372036854775807 := by have := h.len; have h2 := HM.out; unfold maxLen at this; omega
  have HI : Hid (m ≤ maxLen) := by rw [show m = l.length from HM.out]; exact h.len
  have HX3 : Hid (∀ W2, Below W1.heap.size W1 W2 → W2.cell? ⟨W.heap.size, 3, none⟩ = some (.slice p m cap)) := fun W2 hb => ((hb.cell (p := ⟨W.heap.size, 3, none⟩) (lt_of_heap HX.out)).trans (cells_of_heap HX.out 3)).trans (by rw [HM.out]; rfl)
  have HX2 : Hid (∀ W2, Below W1.heap.size W1 W2 → W2.cell? ⟨W.heap.size, 2, none⟩ = some (.int .i64 n)) := fun W2 hb => (hb.cell (p := ⟨W.heap.size, 2, none⟩) (lt_of_heap HX.out)).trans (cells_of_heap HX.out 2)
  have HX1 : Hid (∀ W2, Below W1.heap.size W1 W2 → W2.cell? ⟨W.heap.size, 1, none⟩ = some (.string N)) := fun W2 hb => (hb.cell (p := ⟨W.heap.size, 1, none⟩) (lt_of_heap HX.out)).trans (cells_of_heap HX.out 1)
  clear h
  cases hN : N.toList.isEmpty with
  | false =>
    by_cases hn : n = 0
    · subst hn
      go_enter Tryd.func6, Tryd.ntmps6
      go_wp2_with fail
      rw [← HW1.out]
      go_loopw [161] (fun iv wr => ∃ i : Nat, i ≤ m ∧ iv = .int .i64 (i : Int) ∧ Hid (Below W1.heap.size W1 wr) ∧ Hid (∀ j, j < i → ∃ h : j < l.length, S sN l[j] ∧ l[j].kind ≠ kNodes)) (fun iv _ => m - (intOf iv).toNat)
      case atStart => exact ⟨0, Nat.zero_le _, rfl, Below.refl _ _, fun j hj => by omega⟩
      case round =>
        rename World => wo
        obtain ⟨i, hi, rfl, HO, HP⟩ := hrel
        have HB0 := Lib.hid (HB1.out.trans (HO.out.mono HB1.out.size))
        have x3 := HX3.out wo HO.out
        by_cases hlt : i < m
        · have hz : (i : Int) < (m : Int) := by omega
          have hil : i < l.length := by have := HM.out; omega
          obtain ⟨b, o, K0, rfl, hbl, hk0, hc0⟩ := HA.out.kind i hil
          have HK0 : Hid (∀ W2, Below W1.heap.size W1 W2 → W2.cell? ⟨b, o + i * 4, none⟩ = some (.string K0)) := fun W2 hb => (hb.cell (p := ⟨b, _, none⟩) hbl).trans hc0
          have HK1 := Lib.hid hk0
          clear hbl hk0 hc0
          go_wp2_with (go_at_call 11; refine (HC.out _ i _ HO.out (by decide) (Nat.le_trans hi HI.out)).mono ?_; rintro e w2 ⟨b0, rfl, hb1, hb2⟩; have HS0 := Lib.hid hb1; have HB2 := Lib.hid (HO.out.trans (hb2.mono HO.out.size)); have HB := Lib.hid (HB1.out.trans (HB2.out.mono HB1.out.size)); have y3 := HX3.out _ HB2.out; have x0 := HK0.out _ HB2.out; clear hb1 hb2)
          all_goals try go_ret
          all_goals first | exact .no HB.out | skip
          exact ⟨⟨i + 1, by omega, by go_num, HB2.out, fun j hj => by
            rcases Nat.lt_or_ge j i with h4 | h4
            · exact HP.out j h4
            · have e : j = i := by omega
              subst e
              obtain ⟨h5, h6⟩ := HS0.out (by first | rfl | assumption)
              exact ⟨h5, h6, by rw [← HK1.out]; exact ne_of (by simpa [kNodes] using ‹(K0.toList == _) = false›)⟩⟩, by simp [intOf]; omega⟩
        · have hz : ¬ (i : Int) < (m : Int) := by omega
          have him : i = m := by omega
          subst him
          have x2 := HX2.out wo HO.out
          have x1 := HX1.out wo HO.out
          go_wp2_with fail
          all_goals try go_ret
          all_goals first | exact .no HB0.out | skip
          all_goals refine .mk (fun e => ?_) HB0.out
          all_goals have h1 : 1 < i := by have := of_decide_eq_true e; omega
          all_goals rw [HK.out, lst_eq ‹want.toList = _›, emp_eq (by simpa using hN)]
          all_goals exact .nodes l (by have := HM.out; omega) (fun x hx => (all_of (P := S sN) (Q := fun x => x.kind ≠ kNodes) HP.out HM.out x hx).1) (fun x hx => (all_of (P := S sN) (Q := fun x => x.kind ≠ kNodes) HP.out HM.out x hx).2)
    · skip
      go_enter Tryd.func6, Tryd.ntmps6
      go_wp2_with fail
      rw [← HW1.out]
      go_loopw [161] (fun iv wr => ∃ i : Nat, i ≤ m ∧ iv = .int .i64 (i : Int) ∧ Hid (Below W1.heap.size W1 wr) ∧ Hid (∀ j, j < i → ∃ h : j < l.length, S sN l[j] ∧ l[j].kind ≠ kNodes)) (fun iv _ => m - (intOf iv).toNat)
      case atStart => exact ⟨0, Nat.zero_le _, rfl, Below.refl _ _, fun j hj => by omega⟩
      case round =>
        rename World => wo
        obtain ⟨i, hi, rfl, HO, HP⟩ := hrel
        have HB0 := Lib.hid (HB1.out.trans (HO.out.mono HB1.out.size))
        have x3 := HX3.out wo HO.out
        by_cases hlt : i < m
        · have hz : (i : Int) < (m : Int) := by omega
          have hil : i < l.length := by have := HM.out; omega
          obtain ⟨b, o, K0, rfl, hbl, hk0, hc0⟩ := HA.out.kind i hil
          have HK0 : Hid (∀ W2, Below W1.heap.size W1 W2 → W2.cell? ⟨b, o + i * 4, none⟩ = some (.string K0)) := fun W2 hb => (hb.cell (p := ⟨b, _, none⟩) hbl).trans hc0
          have HK1 := Lib.hid hk0
          clear hbl hk0 hc0
          go_wp2_with (go_at_call 11; refine (HC.out _ i _ HO.out (by decide) (Nat.le_trans hi HI.out)).mono ?_; rintro e w2 ⟨b0, rfl, hb1, hb2⟩; have HS0 := Lib.hid hb1; have HB2 := Lib.hid (HO.out.trans (hb2.mono HO.out.size)); have HB := Lib.hid (HB1.out.trans (HB2.out.mono HB1.out.size)); have y3 := HX3.out _ HB2.out; have x0 := HK0.out _ HB2.out; clear hb1 hb2)
          all_goals try go_ret
          all_goals first | exact .no HB.out | skip
          exact ⟨⟨i + 1, by omega, by go_num, HB2.out, fun j hj => by
            rcases Nat.lt_or_ge j i with h4 | h4
            · exact HP.out j h4
            · have e : j = i := by omega
              subst e
              obtain ⟨h5, h6⟩ := HS0.out (by first | rfl | assumption)
              exact ⟨h5, h6, by rw [← HK1.out]; exact ne_of (by simpa [kNodes] using ‹(K0.toList == _) = false›)⟩⟩, by simp [intOf]; omega⟩
        · have hz : ¬ (i : Int) < (m : Int) := by omega
          have him : i = m := by omega
          subst him
          have x2 := HX2.out wo HO.out
          have x1 := HX1.out wo HO.out
          go_wp2_with fail
          all_goals try go_ret
          all_goals first | exact .no HB0.out | skip
          all_goals refine .mk (fun e => ?_) HB0.out
          all_goals have h1 : 1 < i := by have := of_decide_eq_true e; omega
          all_goals rw [HK.out, lst_eq ‹want.toList = _›, emp_eq (by simpa using hN)]
          all_goals exact .nodes l (by have := HM.out; omega) (fun x hx => (all_of (P := S sN) (Q := fun x => x.kind ≠ kNodes) HP.out HM.out x hx).1) (fun x hx => (all_of (P := S sN) (Q := fun x => x.kind ≠ kNodes) HP.out HM.out x hx).2)
  | true =>
    by_cases hn : n = 0
    · subst hn
      go_enter Tryd.func6, Tryd.ntmps6
      go_wp2_with fail
      rw [← HW1.out]
      go_loopw [161] (fun iv wr => ∃ i : Nat, i ≤ m ∧ iv = .int .i64 (i : Int) ∧ Hid (Below W1.heap.size W1 wr) ∧ Hid (∀ j, j < i → ∃ h : j < l.length, S sN l[j] ∧ l[j].kind ≠ kNodes)) (fun iv _ => m - (intOf iv).toNat)
      case atStart => exact ⟨0, Nat.zero_le _, rfl, Below.refl _ _, fun j hj => by omega⟩
      case round =>
        rename World => wo
        obtain ⟨i, hi, rfl, HO, HP⟩ := hrel
        have HB0 := Lib.hid (HB1.out.trans (HO.out.mono HB1.out.size))
        have x3 := HX3.out wo HO.out
        by_cases hlt : i < m
        · have hz : (i : Int) < (m : Int) := by omega
          have hil : i < l.length := by have := HM.out; omega
          obtain ⟨b, o, K0, rfl, hbl, hk0, hc0⟩ := HA.out.kind i hil
          have HK0 : Hid (∀ W2, Below W1.heap.size W1 W2 → W2.cell? ⟨b, o + i * 4, none⟩ = some (.string K0)) := fun W2 hb => (hb.cell (p := ⟨b, _, none⟩) hbl).trans hc0
          have HK1 := Lib.hid hk0
          clear hbl hk0 hc0
          go_wp2_with (go_at_call 11; refine (HC.out _ i _ HO.out (by decide) (Nat.le_trans hi HI.out)).mono ?_; rintro e w2 ⟨b0, rfl, hb1, hb2⟩; have HS0 := Lib.hid hb1; have HB2 := Lib.hid (HO.out.trans (hb2.mono HO.out.size)); have HB := Lib.hid (HB1.out.trans (HB2.out.mono HB1.out.size)); have y3 := HX3.out _ HB2.out; have x0 := HK0.out _ HB2.out; clear hb1 hb2)
          all_goals try go_ret
          all_goals first | exact .no HB.out | skip
          exact ⟨⟨i + 1, by omega, by go_num, HB2.out, fun j hj => by
            rcases Nat.lt_or_ge j i with h4 | h4
            · exact HP.out j h4
            · have e : j = i := by omega
              subst e
              obtain ⟨h5, h6⟩ := HS0.out (by first | rfl | assumption)
              exact ⟨h5, h6, by rw [← HK1.out]; exact ne_of (by simpa [kNodes] using ‹(K0.toList == _) = false›)⟩⟩, by simp [intOf]; omega⟩
        · have hz : ¬ (i : Int) < (m : Int) := by omega
          have him : i = m := by omega
          subst him
          have x2 := HX2.out wo HO.out
          have x1 := HX1.out wo HO.out
          go_wp2_with fail
          all_goals try go_ret
          all_goals first | exact .no HB0.out | skip
          all_goals refine .mk (fun e => ?_) HB0.out
          all_goals have h1 : 1 < i := by have := of_decide_eq_true e; omega
          all_goals rw [HK.out, lst_eq ‹want.toList = _›, emp_eq (by simpa using hN)]
          all_goals exact .nodes l (by have := HM.out; omega) (fun x hx => (all_of (P := S sN) (Q := fun x => x.kind ≠ kNodes) HP.out HM.out x hx).1) (fun x hx => (all_of (P := S sN) (Q := fun x => x.kind ≠ kNodes) HP.out HM.out x hx).2)
    · skip
      go_enter Tryd.func6, Tryd.ntmps6
      go_wp2_with fail
      rw [← HW1.out]
      go_loopw [161] (fun iv wr => ∃ i : Nat, i ≤ m ∧ iv = .int .i64 (i : Int) ∧ Hid (Below W1.heap.size W1 wr) ∧ Hid (∀ j, j < i → ∃ h : j < l.length, S sN l[j] ∧ l[j].kind ≠ kNodes)) (fun iv _ => m - (intOf iv).toNat)
      case atStart => exact ⟨0, Nat.zero_le _, rfl, Below.refl _ _, fun j hj => by omega⟩
      case round =>
        rename World => wo
        obtain ⟨i, hi, rfl, HO, HP⟩ := hrel
        have HB0 := Lib.hid (HB1.out.trans (HO.out.mono HB1.out.size))
        have x3 := HX3.out wo HO.out
        by_cases hlt : i < m
        · have hz : (i : Int) < (m : Int) := by omega
          have hil : i < l.length := by have := HM.out; omega
          obtain ⟨b, o, K0, rfl, hbl, hk0, hc0⟩ := HA.out.kind i hil
          have HK0 : Hid (∀ W2, Below W1.heap.size W1 W2 → W2.cell? ⟨b, o + i * 4, none⟩ = some (.string K0)) := fun W2 hb => (hb.cell (p := ⟨b, _, none⟩) hbl).trans hc0
          have HK1 := Lib.hid hk0
          clear hbl hk0 hc0
          go_wp2_with (go_at_call 11; refine (HC.out _ i _ HO.out (by decide) (Nat.le_trans hi HI.out)).mono ?_; rintro e w2 ⟨b0, rfl, hb1, hb2⟩; have HS0 := Lib.hid hb1; have HB2 := Lib.hid (HO.out.trans (hb2.mono HO.out.size)); have HB := Lib.hid (HB1.out.trans (HB2.out.mono HB1.out.size)); have y3 := HX3.out _ HB2.out; have x0 := HK0.out _ HB2.out; clear hb1 hb2)
          all_goals try go_ret
          all_goals first | exact .no HB.out | skip
          exact ⟨⟨i + 1, by omega, by go_num, HB2.out, fun j hj => by
            rcases Nat.lt_or_ge j i with h4 | h4
            · exact HP.out j h4
            · have e : j = i := by omega
              subst e
              obtain ⟨h5, h6⟩ := HS0.out (by first | rfl | assumption)
              exact ⟨h5, h6, by rw [← HK1.out]; exact ne_of (by simpa [kNodes] using ‹(K0.toList == _) = false›)⟩⟩, by simp [intOf]; omega⟩
        · have hz : ¬ (i : Int) < (m : Int) := by omega
          have him : i = m := by omega
          subst him
          have x2 := HX2.out wo HO.out
          have x1 := HX1.out wo HO.out
          go_wp2_with fail
          all_goals try go_ret
          all_goals first | exact .no HB0.out | skip
          all_goals refine .mk (fun e => ?_) HB0.out
          all_goals have h1 : 1 < i := by have := of_decide_eq_true e; omega
          all_goals rw [HK.out, lst_eq ‹want.toList = _›, emp_eq (by simpa using hN)]
          all_goals exact .nodes l (by have := HM.out; omega) (fun x hx => (all_of (P := S sN) (Q := fun x => x.kind ≠ kNodes) HP.out HM.out x hx).1) (fun x hx => (all_of (P := S sN) (Q := fun x => x.kind ≠ kNodes) HP.out HM.out x hx).2)
end Go.Proofs.YtkcpfgnfhbbhhaaDoor.po
