/-
  Plain facts for the law laws.FnPosRead: the text that the law glues together, and what a number's digits are read as. Conditions: of each lemma, in its statement.
-/
import Derived.Test.YtkcpfgnfhbbhhaaDoorPosS
import Derived.Lib.Atoi
set_option linter.unusedVariables false
namespace Go.Proofs.YtkcpfgnfhbbhhaaDoor.po

/-- The law's text: no blanks ahead of the first token. -/
def text (g : Nat → Nat) : List Bs → Bs
  | [] => []
  | w :: r => w ++ glue g 1 r
theorem glue_snoc (g : Nat → Nat) (w : Bs) : ∀ (l : List Bs) (i : Nat), glue g i (l ++ [w]) = glue g i l ++ (List.replicate (g (i + l.length)) 32 ++ w)
  | [], i => by simp [glue]
  | x :: r, i => by
    have := glue_snoc g w r (i + 1)
    simp only [List.cons_append, glue, this, List.length_cons, List.append_assoc]
    rw [show i + 1 + r.length = i + (r.length + 1) by omega]
theorem text_one (g : Nat → Nat) (w : Bs) : text g [w] = w := by simp [text, glue]
theorem text_snoc (g : Nat → Nat) (w : Bs) {l : List Bs} (h : l ≠ []) : text g (l ++ [w]) = text g l ++ (List.replicate (g l.length) 32 ++ w) := by
  cases l with
  | nil => exact absurd rfl h
  | cons x r =>
    simp only [List.cons_append, text, glue_snoc, List.append_assoc, List.length_cons]
    rw [Nat.add_comm 1 r.length]
theorem spell_text (g : Nat → Nat) {l : List Bs} (h : Fine l) : Spell l (text g l) [] := by
  cases l with
  | nil => exact absurd rfl h.ne
  | cons w r => exact spell_glue g r 0 w h.good h.tk
theorem decFrom_append (a : List UInt8) (c : UInt8) (d : Nat) (hd : Lib.digitVal c = some d) : ∀ (acc n : Nat), Lib.decFrom acc a = some n → Lib.decFrom acc (a ++ [c]) = some (n * 10 + d) := by
  induction a with
  | nil =>
    intro acc n h
    simp only [Lib.decFrom] at h
    cases h
    simp [Lib.decFrom, hd]
  | cons b t ih =>
    intro acc n h
    simp only [Lib.decFrom, List.cons_append] at h ⊢
    cases hb : Lib.digitVal b with
    | none => rw [hb] at h; simp at h
    | some e =>
      rw [hb] at h
      simp only at h ⊢
      exact ih _ _ h
theorem digitVal_dig : ∀ n, n < 10 → Lib.digitVal (UInt8.ofNat (48 + n)) = some n := by decide
theorem dec_digits (n : Nat) : Lib.decFrom 0 (digitsB n) = some n := by
  induction n using Nat.strongRecOn with
  | _ n ih =>
    rw [digitsB]
    split
    · rename_i h
      unfold Lib.decFrom
      rw [digitVal_dig n h]
      simp [Lib.decFrom]
    · rename_i h
      rw [decFrom_append _ _ (n % 10) (digitVal_dig _ (Nat.mod_lt _ (by omega))) 0 (n / 10) (ih _ (by omega))]
      congr 1
      omega
theorem head_dig : ∀ n, n < 10 → UInt8.ofNat (48 + n) ≠ 45 ∧ UInt8.ofNat (48 + n) ≠ 43 ∧ digB (UInt8.ofNat (48 + n)) = true := by decide
theorem digits_all (n : Nat) : digitsB n ≠ [] ∧ ∀ c ∈ digitsB n, c ≠ 45 ∧ c ≠ 43 ∧ digB c = true := by
  induction n using Nat.strongRecOn with
  | _ n ih =>
    rw [digitsB]
    split
    · rename_i h
      refine ⟨by simp, fun c hc => ?_⟩
      rw [List.mem_singleton.1 hc]
      exact head_dig n h
    · rename_i h
      refine ⟨by simp, fun c hc => ?_⟩
      rcases List.mem_append.1 hc with hc | hc
      · exact (ih (n / 10) (by omega)).2 c hc
      · rw [List.mem_singleton.1 hc]
        exact head_dig _ (Nat.mod_lt _ (by omega))
theorem atoi_digits (n : Nat) : Lib.atoi (digitsB n) = some (n : Int) := by
  have h1 := digits_all n
  have h2 := dec_digits n
  cases hd : digitsB n with
  | nil => exact absurd hd h1.1
  | cons c r =>
    rw [hd] at h1 h2
    have hc := h1.2 c List.mem_cons_self
    unfold Lib.atoi
    simp only
    rw [if_neg (by simpa using hc.1), if_neg (by simpa using hc.2.1)]
    simp [Lib.decNat, h2]
theorem digits_length : ∀ (k n : Nat), n < 10 ^ (k + 1) → (digitsB n).length ≤ k + 1
  | 0, n, h => by
    rw [digitsB, dif_pos (by omega)]
    simp
  | k + 1, n, h => by
    rw [digitsB]
    split
    · simp
    · have := digits_length k (n / 10) (by rw [Nat.pow_succ] at h; omega)
      simp
      omega
end Go.Proofs.YtkcpfgnfhbbhhaaDoor.po
