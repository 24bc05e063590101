/-
  The sort of an expression: laws.posSort: what its kinds' proofs share. Conditions: in the statements.
-/
import Derived.Test.YtkcpfgnfhbbhhaaDoorPosQ
set_option linter.unusedVariables false
set_option linter.unusedSimpArgs false
namespace Go.Proofs.YtkcpfgnfhbbhhaaDoor.po
open Go.RowKit

/-- What posSort is asked of. -/
structure Asked (W : World) (K N want : ByteArray) (n : Int) (l : List PT) (p : Option Addr) : Prop where
  args : ArgsAt W p l
  ih : SortIH l
  len : l.length ≤ maxLen
  want : want.size ≤ 1
  name : N.size ≤ 140737488355327
theorem AtS.one {l : List PT} {w : Bs} (h : AtS l 0 w) (h1 : l.length = 1) : ∃ a, l = [a] ∧ S w a := by
  obtain ⟨a, rfl⟩ := List.length_eq_one_iff.1 h1
  obtain ⟨_, h2⟩ := h
  exact ⟨a, rfl, h2⟩
theorem AtS.two {l : List PT} {w1 w2 : Bs} (h : AtS l 0 w1) (k : AtS l 1 w2) (h1 : l.length = 2) : ∃ a b, l = [a, b] ∧ S w1 a ∧ S w2 b := by
  obtain ⟨a, b, rfl⟩ := len2 h1
  obtain ⟨_, h2⟩ := h
  obtain ⟨_, k2⟩ := k
  exact ⟨a, b, rfl, h2, k2⟩
theorem AtS.three {l : List PT} {w1 w2 w3 : Bs} (h : AtS l 0 w1) (k : AtS l 1 w2) (m : AtS l 2 w3) (h1 : l.length = 3) : ∃ a b c, l = [a, b, c] ∧ S w1 a ∧ S w2 b ∧ S w3 c := by
  obtain ⟨a, b, c, rfl⟩ := len3 h1
  obtain ⟨_, h2⟩ := h
  obtain ⟨_, k2⟩ := k
  obtain ⟨_, m2⟩ := m
  exact ⟨a, b, c, rfl, h2, k2, m2⟩
theorem emp_eq {N : ByteArray} (h : N.toList = []) : N.data.toList = [] := by
  rw [Lib.toList_data] at h
  exact h
theorem lst_eq {K : ByteArray} {l : Bs} (h : K.toList = l) : K.data.toList = l := by
  rw [Lib.toList_data] at h
  exact h
theorem word_pos {s : ByteArray} (h : wordB s.data.toList = true) : 0 < s.size := by
  rcases Nat.eq_zero_or_pos s.size with h0 | h0
  · rw [wordB_no h0] at h
    cases h
  · exact h0
/-- Posts where the world has gone on. -/
theorem Sorted.no {t : PT} {want : Bs} {W W' : World} (h : Below W.heap.size W W') : Sorted t want W.heap.size W (.returned (.bool false)) W' := ⟨false, rfl, fun e => absurd e (by decide), h⟩
theorem Sorted.mk {t : PT} {want : Bs} {b : Bool} {W W' : World} (hb : b = true → S want t) (h : Below W.heap.size W W') : Sorted t want W.heap.size W (.returned (.bool b)) W' := ⟨b, rfl, hb, h⟩
theorem ArgsAt.kind {W : World} {p : Option Addr} {l : List PT} (h : ArgsAt W p l) (i : Nat) (hi : i < l.length) : ∃ b o K0, p = some ⟨b, o, none⟩ ∧ b < W.heap.size ∧ K0.data.toList = l[i].kind ∧ W.cell? ⟨b, o + i * 4, none⟩ = some (.string K0) := by
  obtain ⟨b, o, e, hlt, c0, c1, c2, c3, q0, q1, q2, q3, hp⟩ := h i hi
  generalize l[i] = t at hp
  cases hp with
  | mk K N n l' p' cap css h1 h2 h3 h4 h5 h6 h7 => exact ⟨b, o, K, e, hlt, rfl, q0⟩
theorem ne_of {K : ByteArray} {l : Bs} (h : ¬ K.toList = l) : K.data.toList ≠ l := by rwa [Lib.toList_data] at h
end Go.Proofs.YtkcpfgnfhbbhhaaDoor.po
