/-
  Plain Lean on lines: a text cut at its line feeds, where its lines begin, the line of a place. No program in sight. Conditions: none.
-/
import Derived.Test.YtmenhnbaabijiaaRows
namespace Go.Proofs.Ytmenhnbaabijiaa.lines

/-- A text, cut at its line feeds. -/
def splitL : List UInt8 → List (List UInt8)
  | [] => [[]]
  | c :: r => if c = 10 then [] :: splitL r else match splitL r with
    | h :: t => (c :: h) :: t
    | [] => [[c]]

theorem splitL_ne (l : List UInt8) : splitL l ≠ [] := by
  cases l with
  | nil => simp [splitL]
  | cons c r =>
    unfold splitL
    split
    · simp
    · split <;> simp

/-- Where the lines of such pieces begin, and where one more would. -/
def startsFrom : Nat → List (List UInt8) → List Nat
  | p, [] => [p]
  | p, x :: r => p :: startsFrom (p + x.length + 1) r
theorem startsFrom_length (ps : List (List UInt8)) : ∀ p, (startsFrom p ps).length = ps.length + 1 := by
  induction ps with
  | nil => intro p; rfl
  | cons x r ih => intro p; simp [startsFrom, ih]
theorem startsFrom_zero (ps : List (List UInt8)) (p : Nat) (h : 0 < (startsFrom p ps).length) : (startsFrom p ps)[0] = p := by cases ps <;> rfl
theorem startsFrom_next (ps : List (List UInt8)) : ∀ (p k : Nat) (hk : k < ps.length) (h1 : k < (startsFrom p ps).length) (h2 : k + 1 < (startsFrom p ps).length),
    (startsFrom p ps)[k + 1] = (startsFrom p ps)[k] + ps[k].length + 1 := by
  induction ps with
  | nil => intro p k hk; simp at hk
  | cons x r ih =>
    intro p k hk h1 h2
    cases k with
    | zero => simp [startsFrom, startsFrom_zero]
    | succ k => simpa [startsFrom] using ih (p + x.length + 1) k (by simpa using hk) (by simpa [startsFrom] using h1) (by simpa [startsFrom] using h2)

/-- Where the lines of a text begin, the first one left out, and where one more would. -/
def tails : Nat → List UInt8 → List Nat
  | p, [] => [p + 1]
  | p, c :: r => if c = 10 then (p + 1) :: tails (p + 1) r else tails (p + 1) r

theorem startsFrom_split (l : List UInt8) : ∀ q, startsFrom q (splitL l) = q :: tails q l := by
  have key : ∀ (l : List UInt8) q, ∃ h t, splitL l = h :: t ∧ startsFrom (q + h.length + 1) t = tails q l := by
    intro l
    induction l with
    | nil => intro q; exact ⟨[], [], rfl, rfl⟩
    | cons c r ih =>
      intro q
      by_cases hc : c = 10
      · obtain ⟨h', t', e, ht⟩ := ih (q + 1)
        refine ⟨[], splitL r, by simp [splitL, hc], ?_⟩
        rw [e]
        simp only [List.length_nil, Nat.add_zero, startsFrom, ht, tails, hc, if_true]
      · obtain ⟨h', t', e, ht⟩ := ih (q + 1)
        refine ⟨c :: h', t', by simp [splitL, hc, e], ?_⟩
        simp only [tails, hc, if_false]
        rw [← ht, List.length_cons]
        congr 1
        omega
  intro q
  obtain ⟨h, t, e, ht⟩ := key l q
  rw [e]
  simp only [startsFrom, ht]

/-- How many line feeds stand among the first n bytes. -/
def feeds (l : List UInt8) (n : Nat) : Nat := (l.take n).count 10
theorem feeds_zero (l : List UInt8) : feeds l 0 = 0 := by simp [feeds]
theorem feeds_le (l : List UInt8) (n : Nat) : feeds l n ≤ l.length := by
  have h1 := List.count_le_length (a := (10 : UInt8)) (l := l.take n)
  have h2 : (l.take n).length ≤ l.length := by simp; omega
  unfold feeds
  omega
theorem feeds_succ (l : List UInt8) (k : Nat) (h : k < l.length) : feeds l (k + 1) = feeds l k + if l[k] = 10 then 1 else 0 := by
  unfold feeds
  rw [List.take_succ_eq_append_getElem h, List.count_append, List.count_cons]
  simp
theorem feeds_mono (l : List UInt8) {a b : Nat} (h : a ≤ b) : feeds l a ≤ feeds l b := by
  unfold feeds
  exact (List.take_prefix_take_left h).sublist.count_le _

theorem tails_length (l : List UInt8) : ∀ p, (tails p l).length = l.count 10 + 1 := by
  induction l with
  | nil => intro p; rfl
  | cons c r ih =>
    intro p
    by_cases hc : c = 10
    · simp [tails, hc, ih]
    · simp [tails, hc, ih]

theorem tails_le_iff (l : List UInt8) : ∀ (p n i : Nat) (hi : i < (tails p l).length), n ≤ l.length → ((tails p l)[i] ≤ p + n ↔ i < feeds l n) := by
  induction l with
  | nil =>
    intro p n i hi hn
    have h0 : i = 0 := by simp [tails] at hi; exact hi
    subst h0
    simp at hn
    subst hn
    simp [tails, feeds]
  | cons c r ih =>
    intro p n i hi hn
    cases n with
    | zero =>
      simp only [feeds, List.take_zero, List.count_nil, Nat.not_lt_zero, iff_false, Nat.not_le, Nat.add_zero]
      have big : ∀ (l : List UInt8) (p i : Nat) (hi : i < (tails p l).length), p < (tails p l)[i] := by
        intro l
        induction l with
        | nil =>
          intro p i hi
          have h0 : i = 0 := by simp [tails] at hi; exact hi
          subst h0
          simp [tails]
        | cons c r ih =>
          intro p i hi
          by_cases hc : c = 10
          · cases i with
            | zero => simp [tails, hc]
            | succ i =>
              have := ih (p + 1) i (by simpa [tails, hc] using hi)
              simp only [tails, hc, if_true, List.getElem_cons_succ]
              omega
          · have := ih (p + 1) i (by simpa [tails, hc] using hi)
            simp only [tails, hc, if_false]
            omega
      exact big _ _ _ hi
    | succ n =>
      have hn' : n ≤ r.length := by simpa using hn
      by_cases hc : c = 10
      · have hf : feeds (c :: r) (n + 1) = feeds r n + 1 := by simp [feeds, hc]
        rw [hf]
        cases i with
        | zero => simp [tails, hc]
        | succ i =>
          have := ih (p + 1) n i (by simpa [tails, hc] using hi) hn'
          simp only [tails, hc, if_true, List.getElem_cons_succ]
          rw [show p + (n + 1) = p + 1 + n from by omega, this]
          omega
      · have hf : feeds (c :: r) (n + 1) = feeds r n := by simp [feeds, hc]
        rw [hf]
        have := ih (p + 1) n i (by simpa [tails, hc] using hi) hn'
        simp only [tails, hc, if_false]
        rw [show p + (n + 1) = p + 1 + n from by omega, this]

/-- Where the lines of a text begin, and where one more would. -/
def starts (l : List UInt8) : List Nat := startsFrom 0 (splitL l)
theorem starts_eq (l : List UInt8) : starts l = 0 :: tails 0 l := startsFrom_split l 0
theorem starts_length (l : List UInt8) : (starts l).length = l.count 10 + 2 := by rw [starts_eq]; simp [tails_length]
theorem starts_pos (l : List UInt8) : 2 ≤ (starts l).length := by rw [starts_length]; omega
theorem feeds_lt (l : List UInt8) (n : Nat) : feeds l n + 1 < (starts l).length := by
  rw [starts_length]
  have := (List.take_sublist n l).count_le (10 : UInt8)
  unfold feeds
  omega

/-- The line of a place is how many line feeds stand ahead of it. -/
theorem starts_le_iff (l : List UInt8) (n i : Nat) (hi : i < (starts l).length) (hn : n ≤ l.length) : (starts l)[i] ≤ n ↔ i ≤ feeds l n := by
  simp only [starts_eq]
  cases i with
  | zero => simp
  | succ i =>
    have := tails_le_iff l 0 n i (by simpa [starts_eq] using hi) hn
    simp only [List.getElem_cons_succ]
    rw [Nat.zero_add] at this
    rw [this]
    omega

/-- Where the line of a place begins. -/
def startOf (l : List UInt8) (n : Nat) : Nat := (starts l).getD (feeds l n) 0
theorem startOf_eq (l : List UInt8) (n : Nat) (h : feeds l n < (starts l).length) : (starts l)[feeds l n] = startOf l n := by
  simp [startOf, List.getD_eq_getElem?_getD, List.getElem?_eq_getElem h]
theorem startOf_le (l : List UInt8) (n : Nat) (hn : n ≤ l.length) : startOf l n ≤ n := by
  have h := feeds_lt l n
  rw [← startOf_eq l n (by omega)]
  exact (starts_le_iff l n _ (by omega) hn).2 (Nat.le_refl _)
end Go.Proofs.Ytmenhnbaabijiaa.lines
