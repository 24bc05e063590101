/-
  The sort of an expression: laws.posSort at every expression. Conditions: in the statement.
-/
import Derived.Test.YtkcpfgnfhbbhhaaDoorPosRa
import Derived.Test.YtkcpfgnfhbbhhaaDoorPosRb
import Derived.Test.YtkcpfgnfhbbhhaaDoorPosRc
import Derived.Test.YtkcpfgnfhbbhhaaDoorPosRd
import Derived.Test.YtkcpfgnfhbbhhaaDoorPosRe
set_option linter.unusedVariables false
set_option linter.unusedSimpArgs false
namespace Go.Proofs.YtkcpfgnfhbbhhaaDoor.po
open Go.RowKit
theorem bulk_mem {l : List PT} {x : PT} (h : x ∈ l) : x.bulk ≤ PT.bulks l := by
  induction l with
  | nil => cases h
  | cons y r ih =>
    rw [PT.bulks]
    rcases List.mem_cons.1 h with rfl | h
    · omega
    · have := ih h
      omega

set_option maxHeartbeats 4000000 in
set_option maxRecDepth 100000 in
theorem sort_other {W : World} {K N want : ByteArray} {n : Int} {l : List PT} {p : Option Addr} {cap : Nat} (hk : ∀ k ∈ [kVar, kInt, kPos, kEnd, kAdd, kChoice, kNodes, kIndex, kLast, kLen, kIf], K.data.toList ≠ k) :
    Calls Tryd.prog 6 #[.agg #[.string K, .string N, .int .i64 n, .slice p l.length cap], .string want] W (fun e W' => Sorted (.mk K.data.toList N.data.toList n l) want.data.toList W.heap.size W e W') := by
  have key : ∀ k ∈ [kVar, kInt, kPos, kEnd, kAdd, kChoice, kNodes, kIndex, kLast, kLen, kIf], (K.toList == k) = false := fun k h => by
    rw [str_is]
    exact decide_eq_false (hk k h)
  have hd1 : (K.toList == [118, 97, 114]) = false := key kVar (by decide)
  have hd2 : (K.toList == [105, 110, 116]) = false := key kInt (by decide)
  have hd3 : (K.toList == [112, 111, 115]) = false := key kPos (by decide)
  have hd4 : (K.toList == [101, 110, 100]) = false := key kEnd (by decide)
  have hd5 : (K.toList == [97, 100, 100]) = false := key kAdd (by decide)
  have hd6 : (K.toList == [99, 104, 111, 105, 99, 101]) = false := key kChoice (by decide)
  have hd7 : (K.toList == [110, 111, 100, 101, 115]) = false := key kNodes (by decide)
  have hd8 : (K.toList == [105, 110, 100, 101, 120]) = false := key kIndex (by decide)
  have hd9 : (K.toList == [108, 97, 115, 116]) = false := key kLast (by decide)
  have hd10 : (K.toList == [108, 101, 110]) = false := key kLen (by decide)
  have hd11 : (K.toList == [105, 102]) = false := key kIf (by decide)
  clear key hk
  generalize l.length = m
  go_enter Tryd.func6, Tryd.ntmps6
  go_wp2_with fail
  all_goals go_ret
  all_goals exact .no (below_alloc W _)
theorem sort_any : ∀ (T : PT) (W : World) (c0 c1 c2 c3 : Value) (want : ByteArray), PosAt W T [c0, c1, c2, c3] → T.bulk ≤ 1048576 → want.size ≤ 1 → Calls Tryd.prog 6 #[.agg #[c0, c1, c2, c3], .string want] W fun e W' => Sorted T want.data.toList W.heap.size W e W' := by
  refine PT.ind fun k nm n l ih W c0 c1 c2 c3 want h hb hw => ?_
  obtain ⟨K, N, p, cap, rfl, rfl, h1, h2, h3, h4, hcs, hl⟩ := h.open
  obtain ⟨rfl, rfl, rfl, rfl⟩ : c0 = .string K ∧ c1 = .string N ∧ c2 = .int .i64 n ∧ c3 = .slice p l.length cap := by simpa using hcs
  rw [PT.bulk] at hb
  have hA : Asked W K N want n l p := ⟨hl, fun x hx W c0 c1 c2 c3 want hp hw => ih x hx W c0 c1 c2 c3 want hp (Nat.le_trans (bulk_mem hx) (by omega)) hw, h4, hw, by have := list_size N; omega⟩
  by_cases e1 : K.data.toList = kVar
  · exact sort_var hA e1
  by_cases e2 : K.data.toList = kInt
  · exact sort_int hA e2
  by_cases e3 : K.data.toList = kPos
  · exact sort_pos hA e3
  by_cases e4 : K.data.toList = kEnd
  · exact sort_end hA e4
  by_cases e5 : K.data.toList = kAdd
  · exact sort_add hA e5
  by_cases e6 : K.data.toList = kChoice
  · exact sort_choice hA e6
  by_cases e7 : K.data.toList = kNodes
  · exact sort_nodes hA e7
  by_cases e8 : K.data.toList = kIndex
  · exact sort_index hA e8
  by_cases e9 : K.data.toList = kLast
  · exact sort_last hA e9
  by_cases e10 : K.data.toList = kLen
  · exact sort_len hA e10
  by_cases e11 : K.data.toList = kIf
  · exact sort_if hA e11
  exact sort_other (fun k hk => by
    rcases List.mem_cons.1 hk with rfl | hk
    · exact e1
    rcases List.mem_cons.1 hk with rfl | hk
    · exact e2
    rcases List.mem_cons.1 hk with rfl | hk
    · exact e3
    rcases List.mem_cons.1 hk with rfl | hk
    · exact e4
    rcases List.mem_cons.1 hk with rfl | hk
    · exact e5
    rcases List.mem_cons.1 hk with rfl | hk
    · exact e6
    rcases List.mem_cons.1 hk with rfl | hk
    · exact e7
    rcases List.mem_cons.1 hk with rfl | hk
    · exact e8
    rcases List.mem_cons.1 hk with rfl | hk
    · exact e9
    rcases List.mem_cons.1 hk with rfl | hk
    · exact e10
    rcases List.mem_cons.1 hk with rfl | hk
    · exact e11
    cases hk)
end Go.Proofs.YtkcpfgnfhbbhhaaDoor.po
