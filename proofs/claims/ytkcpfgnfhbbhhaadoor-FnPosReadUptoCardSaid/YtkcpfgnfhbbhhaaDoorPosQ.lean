/-
  The sort of an expression: laws.posSort's closure. Conditions: in the statements.
-/
import Derived.Test.YtkcpfgnfhbbhhaaDoorPosZ
import Derived.Test.YtkcpfgnfhbbhhaaDoorPosW
set_option linter.unusedVariables false
set_option linter.unusedSimpArgs false
namespace Go.Proofs.YtkcpfgnfhbbhhaaDoor.po
open Go.RowKit

theorem str_is {K : ByteArray} {l : Bs} : (K.toList == l) = decide (K.data.toList = l) := by
  rw [Lib.toList_data, Bool.eq_iff_iff]
  simp
theorem str_eq {K : ByteArray} {l : Bs} (h : (K.toList == l) = true) : K.data.toList = l := by
  rw [str_is] at h
  simpa using h
/-- What posSort answers: true of nothing but an expression of that sort. -/
def Sorted (t : PT) (want : Bs) (n : Nat) (w : World) (e : Ending) (w' : World) : Prop := ∃ b, e = .returned (.bool b) ∧ (b = true → S want t) ∧ Below n w w'
/-- What posSort is to answer at the arguments of an expression. -/
def SortIH (l : List PT) : Prop := ∀ x, x ∈ l → ∀ (W : World) (c0 c1 c2 c3 : Value) (want : ByteArray), PosAt W x [c0, c1, c2, c3] → want.size ≤ 1 → Calls Tryd.prog 6 #[.agg #[c0, c1, c2, c3], .string want] W fun e W' => Sorted x want.data.toList W.heap.size W e W'
/-- The arguments of an expression in memory. -/
def ArgsAt (W : World) (p : Option Addr) (l : List PT) : Prop := ∀ i (h : i < l.length), ∃ b o, p = some ⟨b, o, none⟩ ∧ b < W.heap.size ∧ ∃ c0 c1 c2 c3, W.cell? ⟨b, o + i * 4, none⟩ = some c0 ∧ W.cell? ⟨b, o + i * 4 + 1, none⟩ = some c1 ∧ W.cell? ⟨b, o + i * 4 + 2, none⟩ = some c2 ∧ W.cell? ⟨b, o + i * 4 + 3, none⟩ = some c3 ∧ PosAt W l[i] [c0, c1, c2, c3]
theorem ArgsAt.on {W W' : World} {p : Option Addr} {l : List PT} (h : ArgsAt W p l) (hb : Below W.heap.size W W') : ArgsAt W' p l := fun i hi => by
  obtain ⟨b, o, e, hlt, c0, c1, c2, c3, q0, q1, q2, q3, hp⟩ := h i hi
  exact ⟨b, o, e, Nat.lt_of_lt_of_le hlt hb.size, c0, c1, c2, c3, (hb.cell (p := ⟨b, _, none⟩) hlt).trans q0, (hb.cell (p := ⟨b, _, none⟩) hlt).trans q1, (hb.cell (p := ⟨b, _, none⟩) hlt).trans q2, (hb.cell (p := ⟨b, _, none⟩) hlt).trans q3, hp.on hb⟩
/-- The i-th argument is there, and of that sort. -/
def AtS (l : List PT) (i : Nat) (w : Bs) : Prop := ∃ h : i < l.length, S w l[i]
def IsPost (l : List PT) (i : Nat) (w : Bs) (W : World) (e : Ending) (W' : World) : Prop := ∃ b, e = .returned (.bool b) ∧ (b = true → AtS l i w) ∧ Below W.heap.size W W'
set_option maxHeartbeats 1000000 in
set_option maxRecDepth 100000 in
theorem is_any {W : World} {K N sort : ByteArray} {n : Int} {l : List PT} {p : Option Addr} {cap eb : Nat} (hX : W.heap[eb]? = some (.cells #[.string K, .string N, .int .i64 n, .slice p l.length cap] 24 (0, 0))) (hl : ArgsAt W p l) (ih : SortIH l) (hlen : l.length ≤ maxLen) (hs : sort.size ≤ 1) (i : Nat) (hi : i ≤ maxLen) :
    Calls Tryd.prog 11 #[.int .i64 (i : Int), .string sort, .pointer (some ⟨eb, 0, none⟩)] W (IsPost l i sort.data.toList W) := by
  have x3 := cells_of_heap hX 3
  have hm : l.length ≤ 9223372036854775807 := by unfold maxLen at hlen; omega
  have HI := Lib.hid ih
  have HX := Lib.hid hX
  clear ih hlen hX
  by_cases hlt : i < l.length
  · obtain ⟨b, o, rfl, hbl, c0, c1, c2, c3, q0, q1, q2, q3, hp⟩ := hl i hlt
    have hz : (i : Int) < (l.length : Int) := by omega
    have HP := Lib.hid hp
    have HS := Lib.hid hs
    obtain ⟨Q, hQ⟩ : ∃ Q, Q = IsPost l i sort.data.toList W := ⟨_, rfl⟩
    have HQ := Lib.hid hQ
    rw [← hQ]
    obtain ⟨m, hm1⟩ : ∃ m, m = l.length := ⟨_, rfl⟩
    rw [← hm1] at x3 hz hm
    have hltm : i < m := by omega
    clear hp hQ hl hm1
    go_enter Tryd.func11, Tryd.ntmps11
    go_wp2_with (first | (go_at_call 6; refine (HI.out l[i] (List.getElem_mem hlt) W c0 c1 c2 c3 sort HP.out HS.out).mono ?_; rintro e w2 ⟨b, rfl, hb1, hb2⟩; have HB := Lib.hid hb1; have HB2 := Lib.hid hb2; clear hb1 hb2))
    all_goals (try go_ret)
    all_goals (rw [HQ.out]; exact ⟨_, rfl, fun e => ⟨hlt, HB.out (by first | exact e | simpa using e | assumption)⟩, HB2.out⟩)
  · have hz : ¬ (i : Int) < (l.length : Int) := by omega
    go_enter Tryd.func11, Tryd.ntmps11
    go_wp2_with fail
    go_ret
    exact ⟨false, rfl, fun e => absurd e (by decide), Below.refl _ _⟩
end Go.Proofs.YtkcpfgnfhbbhhaaDoor.po
