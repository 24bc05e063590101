/-
  Expressions of the language of positions as plain data: their sorts, their tokens, how they are spelled. Conditions: of each lemma, in its statement.
-/
import Derived.Test.YtkcpfgnfhbbhhaaDoorProg
set_option linter.unusedVariables false
namespace Go.Proofs.YtkcpfgnfhbbhhaaDoor.po

abbrev Bs := List UInt8
/-- An expression. -/
inductive PT where
  | mk (kind name : Bs) (n : Int) (args : List PT)
def PT.kind : PT → Bs | .mk k _ _ _ => k
def PT.name : PT → Bs | .mk _ n _ _ => n
def PT.num : PT → Int | .mk _ _ n _ => n
def PT.args : PT → List PT | .mk _ _ _ l => l
mutual
theorem PT.ind {P : PT → Prop} (h : ∀ k n i l, (∀ x ∈ l, P x) → P (.mk k n i l)) : ∀ t, P t
  | .mk k n i l => h k n i l (PT.inds h l)
theorem PT.inds {P : PT → Prop} (h : ∀ k n i l, (∀ x ∈ l, P x) → P (.mk k n i l)) : ∀ l : List PT, ∀ x ∈ l, P x
  | [], _, hx => by cases hx
  | y :: r, x, hx => by
    rcases List.mem_cons.1 hx with e | hx
    · rw [e]; exact PT.ind h y
    · exact PT.inds h r x hx
end
mutual
def PT.size : PT → Nat
  | .mk _ _ _ l => 1 + PT.sizes l
def PT.sizes : List PT → Nat
  | [] => 0
  | x :: r => x.size + PT.sizes r
end
theorem PT.size_eq (k n : Bs) (i : Int) (l : List PT) : (PT.mk k n i l).size = 1 + PT.sizes l := by rw [PT.size]
theorem PT.sizes_nil : PT.sizes [] = 0 := by rw [PT.sizes]
theorem PT.sizes_cons (x : PT) (r : List PT) : PT.sizes (x :: r) = x.size + PT.sizes r := by rw [PT.sizes]

/-! Kinds and sorts. -/
def kVar : Bs := [118, 97, 114]
def kInt : Bs := [105, 110, 116]
def kPos : Bs := [112, 111, 115]
def kEnd : Bs := [101, 110, 100]
def kAdd : Bs := [97, 100, 100]
def kChoice : Bs := [99, 104, 111, 105, 99, 101]
def kNodes : Bs := [110, 111, 100, 101, 115]
def kIndex : Bs := [105, 110, 100, 101, 120]
def kLast : Bs := [108, 97, 115, 116]
def kLen : Bs := [108, 101, 110]
def kIf : Bs := [105, 102]
def sP : Bs := [112]
def sN : Bs := [110]
def sI : Bs := [105]
def sS : Bs := [115]
def letB (c : UInt8) : Bool := (decide (97 ≤ c) && decide (c ≤ 122)) || (decide (65 ≤ c) && decide (c ≤ 90)) || decide (c = 95)
def digB (c : UInt8) : Bool := decide (48 ≤ c) && decide (c ≤ 57)
def wordy (c : UInt8) : Bool := letB c || digB c
def wordB : Bs → Bool
  | [] => false
  | c :: r => letB c && r.all wordy
/-- A variable's name. -/
def nameB (b : Bs) : Bool := wordB b && decide (b.head? ≠ some 95) && decide (b ≠ kLen)
def kindAt (l : List PT) (i : Nat) : Option Bs := l[i]?.map PT.kind
mutual
/-- Is the expression of that sort? -/
def sortB : PT → Bs → Bool
  | .mk k nm i l, w =>
    if k = kVar then decide (i = 0) && l.isEmpty && nameB nm && decide (w ≠ sI)
    else if k = kInt then decide (w = sI) && nm.isEmpty && decide (0 ≤ i) && decide (i < 1099511627776) && l.isEmpty
    else if k = kPos ∨ k = kEnd then decide (w = sP) && nm.isEmpty && decide (i = 0) && decide (l.length = 1) && sortAt l 0 sN
    else if k = kAdd then decide (w = sP) && nm.isEmpty && decide (i = 0) && decide (l.length = 2) && sortAt l 0 sP && sortAt l 1 sI && decide (kindAt l 0 ≠ some kChoice)
    else if k = kChoice then sortAll l sP kChoice && decide (w = sP) && nm.isEmpty && decide (i = 0) && decide (1 < l.length)
    else if k = kNodes then sortAll l sN kNodes && decide (w = sN) && nm.isEmpty && decide (i = 0) && decide (1 < l.length)
    else if k = kIndex then decide (w = sN) && nm.isEmpty && decide (i = 0) && decide (l.length = 2) && sortAt l 0 sS && sortAt l 1 sI && decide (kindAt l 0 = some kVar)
    else if k = kLast then decide (w = sN) && nm.isEmpty && decide (i = 0) && decide (l.length = 1) && sortAt l 0 sS && decide (kindAt l 0 = some kVar)
    else if k = kLen then decide (w = sI) && nm.isEmpty && decide (i = 0) && decide (l.length = 1) && sortAt l 0 sS && decide (kindAt l 0 = some kVar)
    else if k = kIf then decide (w = sI) && nm.isEmpty && decide (i = 0) && decide (l.length = 3) && sortAt l 0 sS && sortAt l 1 sI && sortAt l 2 sI && decide (kindAt l 0 = some kVar)
    else false
def sortAt : List PT → Nat → Bs → Bool
  | [], _, _ => false
  | x :: _, 0, w => sortB x w
  | _ :: r, i + 1, w => sortAt r i w
def sortAll : List PT → Bs → Bs → Bool
  | [], _, _ => true
  | x :: r, w, k => sortB x w && decide (x.kind ≠ k) && sortAll r w k
end
/-- An expression of a sort. -/
inductive S : Bs → PT → Prop where
  | var (nm w : Bs) : nameB nm = true → w ≠ sI → S w (.mk kVar nm 0 [])
  | int (n : Nat) : n < 1099511627776 → S sI (.mk kInt [] n [])
  | pos (k : Bs) (a : PT) : k = kPos ∨ k = kEnd → S sN a → S sP (.mk k [] 0 [a])
  | add (a b : PT) : S sP a → a.kind ≠ kChoice → S sI b → S sP (.mk kAdd [] 0 [a, b])
  | choice (l : List PT) : 1 < l.length → (∀ x, x ∈ l → S sP x) → (∀ x, x ∈ l → x.kind ≠ kChoice) → S sP (.mk kChoice [] 0 l)
  | nodes (l : List PT) : 1 < l.length → (∀ x, x ∈ l → S sN x) → (∀ x, x ∈ l → x.kind ≠ kNodes) → S sN (.mk kNodes [] 0 l)
  | index (nm : Bs) (b : PT) : nameB nm = true → S sI b → S sN (.mk kIndex [] 0 [.mk kVar nm 0 [], b])
  | last (nm : Bs) : nameB nm = true → S sN (.mk kLast [] 0 [.mk kVar nm 0 []])
  | len (nm : Bs) : nameB nm = true → S sI (.mk kLen [] 0 [.mk kVar nm 0 []])
  | ite (nm : Bs) (a b : PT) : nameB nm = true → S sI a → S sI b → S sI (.mk kIf [] 0 [.mk kVar nm 0 [], a, b])
theorem sortAll_mem : ∀ {l : List PT} {w k : Bs}, sortAll l w k = true → ∀ x ∈ l, sortB x w = true ∧ x.kind ≠ k
  | [], _, _, _, _, hx => by cases hx
  | y :: r, w, k, h, x, hx => by
    rw [sortAll] at h
    simp only [Bool.and_eq_true, decide_eq_true_eq] at h
    rcases List.mem_cons.1 hx with e | hx
    · rw [e]; exact h.1
    · exact sortAll_mem h.2 x hx
theorem sortAt_get : ∀ {l : List PT} {i : Nat} {w : Bs}, sortAt l i w = true → ∃ h : i < l.length, sortB l[i] w = true
  | [], i, _, h => by rw [sortAt] at h; cases h
  | x :: r, 0, w, h => ⟨by simp, by rw [sortAt] at h; exact h⟩
  | x :: r, i + 1, w, h => by
    rw [sortAt] at h
    obtain ⟨h1, h2⟩ := sortAt_get h
    exact ⟨by simpa using h1, by simpa using h2⟩
theorem S.isVar {t : PT} (h : S sS t) : ∃ nm, nameB nm = true ∧ t = .mk kVar nm 0 [] := by
  generalize hw : sS = w at h
  cases h with
  | var nm w h1 h2 => exact ⟨nm, h1, rfl⟩
  | _ => exact absurd hw (by decide)
theorem len2 {α : Type} : ∀ {l : List α}, l.length = 2 → ∃ a b, l = [a, b]
  | [a, b], _ => ⟨a, b, rfl⟩
  | [], h => by simp at h
  | [_], h => by simp at h
  | _ :: _ :: _ :: r, h => by simp at h
theorem len3 {α : Type} : ∀ {l : List α}, l.length = 3 → ∃ a b c, l = [a, b, c]
  | [a, b, c], _ => ⟨a, b, c, rfl⟩
  | [], h => by simp at h
  | [_], h => by simp at h
  | [_, _], h => by simp at h
  | _ :: _ :: _ :: _ :: r, h => by simp at h
theorem sort_of : ∀ (t : PT) (w : Bs), sortB t w = true → S w t := by
  refine PT.ind fun k nm i l ih w h => ?_
  rw [sortB] at h
  split at h
  · rename_i hk
    simp only [Bool.and_eq_true, decide_eq_true_eq, List.isEmpty_iff] at h
    obtain ⟨⟨⟨h1, h2⟩, h3⟩, h4⟩ := h
    subst hk h1 h2
    exact .var _ _ h3 h4
  split at h
  · rename_i hk
    simp only [Bool.and_eq_true, decide_eq_true_eq, List.isEmpty_iff] at h
    obtain ⟨⟨⟨⟨h1, h2⟩, h3⟩, h4⟩, h5⟩ := h
    subst hk h1 h2 h5
    obtain ⟨n, rfl⟩ := Int.eq_ofNat_of_zero_le h3
    exact .int n (by omega)
  have get1 : ∀ {w' : Bs}, sortAt l 0 w' = true → l.length = 1 → ∃ a, l = [a] ∧ S w' a := by
    intro w' h1 h2
    obtain ⟨h3, h4⟩ := sortAt_get h1
    obtain ⟨a, rfl⟩ := List.length_eq_one_iff.1 h2
    exact ⟨a, rfl, ih a List.mem_cons_self _ h4⟩
  have get2 : ∀ {w1 w2 : Bs}, sortAt l 0 w1 = true → sortAt l 1 w2 = true → l.length = 2 → ∃ a b, l = [a, b] ∧ S w1 a ∧ S w2 b := by
    intro w1 w2 h1 h2 h3
    obtain ⟨h4, h5⟩ := sortAt_get h1
    obtain ⟨h6, h7⟩ := sortAt_get h2
    obtain ⟨a, b, rfl⟩ := len2 h3
    exact ⟨a, b, rfl, ih a (by simp) _ h5, ih b (by simp) _ h7⟩
  have get3 : ∀ {w1 w2 w3 : Bs}, sortAt l 0 w1 = true → sortAt l 1 w2 = true → sortAt l 2 w3 = true → l.length = 3 → ∃ a b c, l = [a, b, c] ∧ S w1 a ∧ S w2 b ∧ S w3 c := by
    intro w1 w2 w3 h1 h2 h3 h0
    obtain ⟨h4, h5⟩ := sortAt_get h1
    obtain ⟨h6, h7⟩ := sortAt_get h2
    obtain ⟨h8, h9⟩ := sortAt_get h3
    obtain ⟨a, b, c, rfl⟩ := len3 h0
    exact ⟨a, b, c, rfl, ih a (by simp) _ h5, ih b (by simp) _ h7, ih c (by simp) _ h9⟩
  split at h
  · rename_i hk
    simp only [Bool.and_eq_true, decide_eq_true_eq, List.isEmpty_iff] at h
    obtain ⟨⟨⟨⟨h1, h2⟩, h3⟩, h4⟩, h5⟩ := h
    obtain ⟨a, rfl, ha⟩ := get1 h5 h4
    subst h1 h2 h3
    exact .pos k a hk ha
  split at h
  · rename_i hk
    simp only [Bool.and_eq_true, decide_eq_true_eq, List.isEmpty_iff] at h
    obtain ⟨⟨⟨⟨⟨⟨h1, h2⟩, h3⟩, h4⟩, h5⟩, h6⟩, h7⟩ := h
    obtain ⟨a, b, rfl, ha, hb⟩ := get2 h5 h6 h4
    subst hk h1 h2 h3
    exact .add a b ha (fun e => h7 (by simp [kindAt, e])) hb
  split at h
  · rename_i hk
    simp only [Bool.and_eq_true, decide_eq_true_eq, List.isEmpty_iff] at h
    obtain ⟨⟨⟨⟨h5, h1⟩, h2⟩, h3⟩, h4⟩ := h
    subst hk h1 h2 h3
    exact .choice l h4 (fun x hx => ih x hx _ (sortAll_mem h5 x hx).1) (fun x hx => (sortAll_mem h5 x hx).2)
  split at h
  · rename_i hk
    simp only [Bool.and_eq_true, decide_eq_true_eq, List.isEmpty_iff] at h
    obtain ⟨⟨⟨⟨h5, h1⟩, h2⟩, h3⟩, h4⟩ := h
    subst hk h1 h2 h3
    exact .nodes l h4 (fun x hx => ih x hx _ (sortAll_mem h5 x hx).1) (fun x hx => (sortAll_mem h5 x hx).2)
  split at h
  · rename_i hk
    simp only [Bool.and_eq_true, decide_eq_true_eq, List.isEmpty_iff] at h
    obtain ⟨⟨⟨⟨⟨⟨h1, h2⟩, h3⟩, h4⟩, h5⟩, h6⟩, h7⟩ := h
    obtain ⟨a, b, rfl, ha, hb⟩ := get2 h5 h6 h4
    obtain ⟨nm', hn, rfl⟩ := ha.isVar
    subst hk h1 h2 h3
    exact .index nm' b hn hb
  split at h
  · rename_i hk
    simp only [Bool.and_eq_true, decide_eq_true_eq, List.isEmpty_iff] at h
    obtain ⟨⟨⟨⟨⟨h1, h2⟩, h3⟩, h4⟩, h5⟩, h6⟩ := h
    obtain ⟨a, rfl, ha⟩ := get1 h5 h4
    obtain ⟨nm', hn, rfl⟩ := ha.isVar
    subst hk h1 h2 h3
    exact .last nm' hn
  split at h
  · rename_i hk
    simp only [Bool.and_eq_true, decide_eq_true_eq, List.isEmpty_iff] at h
    obtain ⟨⟨⟨⟨⟨h1, h2⟩, h3⟩, h4⟩, h5⟩, h6⟩ := h
    obtain ⟨a, rfl, ha⟩ := get1 h5 h4
    obtain ⟨nm', hn, rfl⟩ := ha.isVar
    subst hk h1 h2 h3
    exact .len nm' hn
  split at h
  · rename_i hk
    simp only [Bool.and_eq_true, decide_eq_true_eq, List.isEmpty_iff] at h
    obtain ⟨⟨⟨⟨⟨⟨⟨h1, h2⟩, h3⟩, h4⟩, h5⟩, h6⟩, h7⟩, h8⟩ := h
    obtain ⟨a, b, c, rfl, ha, hb, hc⟩ := get3 h5 h6 h7 h4
    obtain ⟨nm', hn, rfl⟩ := ha.isVar
    subst hk h1 h2 h3
    exact .ite nm' b c hn hb hc
  · cases h
end Go.Proofs.YtkcpfgnfhbbhhaaDoor.po
