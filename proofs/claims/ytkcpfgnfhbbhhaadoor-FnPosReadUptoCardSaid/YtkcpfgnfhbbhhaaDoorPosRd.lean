/-
  The sort of an expression: laws.posSort at names and numbers. Conditions: in the statements.
-/
import Derived.Test.YtkcpfgnfhbbhhaaDoorPosR
set_option linter.unusedVariables false
set_option linter.unusedSimpArgs false
namespace Go.Proofs.YtkcpfgnfhbbhhaaDoor.po
open Go.RowKit
theorem head_ne {N : ByteArray} (h : 0 < N.size) (h1 : ¬ (N[0].toNat : Int) = 95) : N.data.toList.head? ≠ some 95 := by
  have h2 := list_size N
  have h3 := list_get N 0 h
  cases hl : N.data.toList with
  | nil => simp
  | cons c r =>
    simp only [hl, List.getElem_cons_zero] at h3
    intro e
    have e2 : c = 95 := by simpa using e
    rw [← h3, e2] at h1
    exact h1 rfl
theorem ne_empty {N : ByteArray} (h : 0 < N.size) : ¬ N.toList = [] := fun e => by
  have := not_empty h
  rw [e] at this
  cases this

set_option maxHeartbeats 4000000 in
set_option maxRecDepth 100000 in
theorem sort_var {W : World} {K N want : ByteArray} {n : Int} {l : List PT} {p : Option Addr} {cap : Nat} (h : Asked W K N want n l p) (hk : K.data.toList = kVar) :
    Calls Tryd.prog 6 #[.agg #[.string K, .string N, .int .i64 n, .slice p l.length cap], .string want] W (fun e W' => Sorted (.mk K.data.toList N.data.toList n l) want.data.toList W.heap.size W e W') := by
  have hd1 : (K.toList == [118, 97, 114]) = true := by rw [str_is, hk]; decide
  have hd2 : (K.toList == [105, 110, 116]) = false := by rw [str_is, hk]; decide
  have hd3 : (K.toList == [112, 111, 115]) = false := by rw [str_is, hk]; decide
  have hd4 : (K.toList == [101, 110, 100]) = false := by rw [str_is, hk]; decide
  have hd5 : (K.toList == [97, 100, 100]) = false := by rw [str_is, hk]; decide
  have hd6 : (K.toList == [99, 104, 111, 105, 99, 101]) = false := by rw [str_is, hk]; decide
  have hd7 : (K.toList == [110, 111, 100, 101, 115]) = false := by rw [str_is, hk]; decide
  have hd8 : (K.toList == [105, 110, 100, 101, 120]) = false := by rw [str_is, hk]; decide
  have hd9 : (K.toList == [108, 97, 115, 116]) = false := by rw [str_is, hk]; decide
  have hd10 : (K.toList == [108, 101, 110]) = false := by rw [str_is, hk]; decide
  have hd11 : (K.toList == [105, 102]) = false := by rw [str_is, hk]; decide
  obtain ⟨W1, hW1⟩ : ∃ W1, W1 = W.alloc (.cells #[.string K, .string N, .int .i64 n, .slice p l.length cap] 24) := ⟨_, rfl⟩
  have HX : Hid (W1.heap[W.heap.size]? = some (.cells #[.string K, .string N, .int .i64 n, .slice p l.length cap] 24 (0, 0))) := by rw [hW1]; exact heap_alloc_new W _
  have HB1 : Hid (Below W.heap.size W W1) := by rw [hW1]; exact below_alloc W _
  have HW1 := Lib.hid hW1
  have HC : Hid (∀ (W2 : World) (i : Nat) (sort : ByteArray), Below W1.heap.size W1 W2 → sort.size ≤ 1 → i ≤ maxLen → Calls Tryd.prog 11 #[.int .i64 (i : Int), .string sort, .pointer (some ⟨W.heap.size, 0, none⟩)] W2 (IsPost l i sort.data.toList W2)) := fun W2 i sort hb h1 h2 => is_any ((hb.block _ (lt_of_heap HX.out)).trans HX.out) ((h.args.on HB1.out).on hb) h.ih h.len h1 i h2
  clear hW1
  have HK := Lib.hid hk
  clear hk
  obtain ⟨m, hm⟩ : ∃ m, m = l.length := ⟨_, rfl⟩
  have HM := Lib.hid hm
  rw [← hm] at HW1 ⊢
  clear hm
  have HN : Hid (N.size ≤ 140737488355327) := h.name
  clear h
  have hw := fun (w : World) (hs : N.size ≤ 140737488355327) => word_any N w hs
  have HW := Lib.hid hw
  clear hw
  by_cases hn : n = 0
  · subst hn
    by_cases hm : m = 0
    · subst hm
      cases hwb : wordB N.data.toList with
      | false =>
        have HWB := Lib.hid hwb
        clear hwb
        go_enter Tryd.func6, Tryd.ntmps6
        go_wp2_with (go_at_call 12; refine (HW.out _ (HN.out)).mono ?_; rintro e w2 ⟨rfl, rfl⟩; rw [HWB.out])
        all_goals try go_ret
        all_goals (rw [← HW1.out]; exact .no HB1.out)
      | true =>
        have h0 := word_pos hwb
        have hne := ne_empty h0
        have h00 : (0 : Int) < (N.size : Int) := by omega
        have HWB := Lib.hid hwb
        clear hwb
        go_enter Tryd.func6, Tryd.ntmps6
        go_wp2_with (go_at_call 12; refine (HW.out _ (HN.out)).mono ?_; rintro e w2 ⟨rfl, rfl⟩; rw [HWB.out])
        all_goals try go_ret
        all_goals first | (rw [← HW1.out]; exact .no HB1.out) | skip
        refine .mk (fun e => ?_) (by rw [← HW1.out]; exact HB1.out)
        rw [Bool.and_eq_true, Bool.and_eq_true] at e
        obtain ⟨⟨e1, e2⟩, e3⟩ := e
        rw [HK.out, List.eq_nil_of_length_eq_zero HM.out.symm]
        refine .var _ _ ?_ ?_
        · unfold nameB
          rw [HWB.out, decide_eq_true (head_ne h0 (by assumption)), decide_eq_true (ne_of (l := kLen) (by assumption))]
          rfl
        · exact ne_of (l := sI) (by simpa [sI] using e3)
    · have hm2 : ¬ (m : Int) = 0 := by omega
      go_enter Tryd.func6, Tryd.ntmps6
      go_wp2_with fail
      all_goals go_ret
      all_goals (rw [← HW1.out]; exact .no HB1.out)
  · go_enter Tryd.func6, Tryd.ntmps6
    go_wp2_with fail
    all_goals go_ret
    all_goals (rw [← HW1.out]; exact .no HB1.out)
set_option maxHeartbeats 4000000 in
set_option maxRecDepth 100000 in
theorem sort_int {W : World} {K N want : ByteArray} {n : Int} {l : List PT} {p : Option Addr} {cap : Nat} (h : Asked W K N want n l p) (hk : K.data.toList = kInt) :
    Calls Tryd.prog 6 #[.agg #[.string K, .string N, .int .i64 n, .slice p l.length cap], .string want] W (fun e W' => Sorted (.mk K.data.toList N.data.toList n l) want.data.toList W.heap.size W e W') := by
  have hd1 : (K.toList == [118, 97, 114]) = false := by rw [str_is, hk]; decide
  have hd2 : (K.toList == [105, 110, 116]) = true := by rw [str_is, hk]; decide
  have hd3 : (K.toList == [112, 111, 115]) = false := by rw [str_is, hk]; decide
  have hd4 : (K.toList == [101, 110, 100]) = false := by rw [str_is, hk]; decide
  have hd5 : (K.toList == [97, 100, 100]) = false := by rw [str_is, hk]; decide
  have hd6 : (K.toList == [99, 104, 111, 105, 99, 101]) = false := by rw [str_is, hk]; decide
  have hd7 : (K.toList == [110, 111, 100, 101, 115]) = false := by rw [str_is, hk]; decide
  have hd8 : (K.toList == [105, 110, 100, 101, 120]) = false := by rw [str_is, hk]; decide
  have hd9 : (K.toList == [108, 97, 115, 116]) = false := by rw [str_is, hk]; decide
  have hd10 : (K.toList == [108, 101, 110]) = false := by rw [str_is, hk]; decide
  have hd11 : (K.toList == [105, 102]) = false := by rw [str_is, hk]; decide
  obtain ⟨W1, hW1⟩ : ∃ W1, W1 = W.alloc (.cells #[.string K, .string N, .int .i64 n, .slice p l.length cap] 24) := ⟨_, rfl⟩
  have HX : Hid (W1.heap[W.heap.size]? = some (.cells #[.string K, .string N, .int .i64 n, .slice p l.length cap] 24 (0, 0))) := by rw [hW1]; exact heap_alloc_new W _
  have HB1 : Hid (Below W.heap.size W W1) := by rw [hW1]; exact below_alloc W _
  have HW1 := Lib.hid hW1
  have HC : Hid (∀ (W2 : World) (i : Nat) (sort : ByteArray), Below W1.heap.size W1 W2 → sort.size ≤ 1 → i ≤ maxLen → Calls Tryd.prog 11 #[.int .i64 (i : Int), .string sort, .pointer (some ⟨W.heap.size, 0, none⟩)] W2 (IsPost l i sort.data.toList W2)) := fun W2 i sort hb h1 h2 => is_any ((hb.block _ (lt_of_heap HX.out)).trans HX.out) ((h.args.on HB1.out).on hb) h.ih h.len h1 i h2
  clear hW1
  have HK := Lib.hid hk
  clear hk
  obtain ⟨m, hm⟩ : ∃ m, m = l.length := ⟨_, rfl⟩
  have HM := Lib.hid hm
  rw [← hm] at HW1 ⊢
  clear hm
  clear h
  go_enter Tryd.func6, Tryd.ntmps6
  go_wp2_with fail
  all_goals try go_ret
  all_goals first | (rw [← HW1.out]; exact .no HB1.out) | skip
  refine .mk (fun e => ?_) (by rw [← HW1.out]; exact HB1.out)
  have hm0 : m = 0 := by simpa using e
  rw [HK.out, List.eq_nil_of_length_eq_zero (l := l) (by rw [← show m = l.length from HM.out]; exact hm0), lst_eq ‹want.toList = _›, emp_eq ‹N.toList = []›]
  obtain ⟨k, rfl⟩ := Int.eq_ofNat_of_zero_le (show 0 ≤ n by assumption)
  exact .int k (by omega)
end Go.Proofs.YtkcpfgnfhbbhhaaDoor.po
