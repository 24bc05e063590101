/-
  The law's text: its bytes, its length. Conditions: in the statements.
-/
import Derived.Test.YtkcpfgnfhbbhhaaDoorPoS
set_option linter.unusedVariables false
set_option linter.unusedSimpArgs false
namespace Go.Proofs.YtkcpfgnfhbbhhaaDoor.po
open Go.RowKit

/-- A byte that may stand in a token. -/
def okB (c : UInt8) : Prop := c.toNat < 128 ∧ spB c = false
theorem ok_wordy : ∀ c : UInt8, wordy c = true → okB c := by
  have key : ∀ n, n < 256 → wordy (UInt8.ofNat n) = true → (UInt8.ofNat n).toNat < 128 ∧ spB (UInt8.ofNat n) = false := by decide +kernel
  intro c h
  have := key c.toNat c.toNat_lt
  rw [UInt8.ofNat_toNat] at this
  exact this h
def okW (w : Bs) : Prop := ∀ c ∈ w, okB c
theorem ok_sign {s : Bs} (h : s ∈ [tDot, tPlus, tBar, tQQ, tLB, tRB, tLP, tRP, tDol, tQ, tCol, kPos, kEnd, kLen]) : okW s := by
  have key : ∀ s ∈ [tDot, tPlus, tBar, tQQ, tLB, tRB, tLP, tRP, tDol, tQ, tCol, kPos, kEnd, kLen], ∀ c ∈ s, c.toNat < 128 ∧ spB c = false := by decide
  exact key s h
theorem ok_name {nm : Bs} (h : nameB nm = true) : okW nm := by
  obtain ⟨hw, _⟩ := name_L h
  exact fun c hc => ok_wordy c (List.all_eq_true.1 hw c hc)
theorem ok_digits (n : Nat) : okW (digitsB n) := fun c hc => ok_wordy c (digB_wordy ((digits_all n).2 c hc).2.2)
theorem ok_more {s : Bs} (hs : okW s) {l : List PT} (h : ∀ x ∈ l, ∀ w ∈ toks x, okW w) : ∀ w ∈ toksMore s l, okW w := by
  induction l with
  | nil => intro w hw; rw [toksMore] at hw; cases hw
  | cons x r ih =>
    intro w hw
    rw [toksMore] at hw
    rcases List.mem_cons.1 hw with rfl | hw
    · exact hs
    rcases List.mem_append.1 hw with hw | hw
    · exact h x (by simp) w hw
    · exact ih (fun y hy => h y (by simp [hy])) w hw
theorem ok_sep {s : Bs} (hs : okW s) {l : List PT} (h : ∀ x ∈ l, ∀ w ∈ toks x, okW w) : ∀ w ∈ toksSep s l, okW w := by
  cases l with
  | nil => intro w hw; rw [toksSep] at hw; cases hw
  | cons x r =>
    intro w hw
    rw [toksSep] at hw
    rcases List.mem_append.1 hw with hw | hw
    · exact h x (by simp) w hw
    · exact ok_more hs (fun y hy => h y (by simp [hy])) w hw
theorem toks_ok {k : Bs} {T : PT} (h : S k T) : ∀ w ∈ toks T, okW w := by
  induction h with
  | var nm w h1 h2 => intro w hw; rw [toks_var, List.mem_singleton] at hw; rw [hw]; exact ok_name h1
  | int n hn => intro w hw; rw [toks_int, List.mem_singleton] at hw; rw [hw]; exact ok_digits n
  | pos k a hk ha ih =>
    intro w hw
    rw [toks_pos hk] at hw
    simp only [List.mem_append, List.mem_cons, List.not_mem_nil, or_false] at hw
    rcases hw with hw | rfl | rfl
    · exact ih w hw
    · exact ok_sign (by simp)
    · rcases hk with rfl | rfl <;> exact ok_sign (by simp)
  | add a b ha hn hb ih1 ih2 =>
    intro w hw
    rw [toks_add] at hw
    simp only [List.mem_append, List.mem_cons] at hw
    rcases hw with hw | rfl | hw
    · exact ih1 w hw
    · exact ok_sign (by simp)
    · exact ih2 w hw
  | choice l h0 h1 h2 ih => rw [toks_choice]; exact ok_sep (ok_sign (by simp)) ih
  | nodes l h0 h1 h2 ih =>
    intro w hw
    rw [toks_nodes] at hw
    simp only [List.mem_append, List.mem_cons, List.not_mem_nil, or_false] at hw
    rcases hw with rfl | hw | rfl
    · exact ok_sign (by simp)
    · exact ok_sep (ok_sign (by simp)) ih w hw
    · exact ok_sign (by simp)
  | index nm b h1 hb ih =>
    intro w hw
    rw [toks_index, toks_var] at hw
    simp only [List.mem_append, List.mem_cons, List.not_mem_nil, or_false] at hw
    rcases hw with rfl | rfl | hw | rfl
    · exact ok_name h1
    · exact ok_sign (by simp)
    · exact ih w hw
    · exact ok_sign (by simp)
  | last nm h1 =>
    intro w hw
    rw [toks_last, toks_var] at hw
    simp only [List.mem_append, List.mem_cons, List.not_mem_nil, or_false] at hw
    rcases hw with rfl | rfl | rfl | rfl
    · exact ok_name h1
    all_goals exact ok_sign (by simp)
  | len nm h1 =>
    intro w hw
    rw [toks_len, toks_var] at hw
    simp only [List.mem_append, List.mem_cons, List.not_mem_nil, or_false] at hw
    rcases hw with rfl | rfl | rfl | rfl
    · exact ok_sign (by simp)
    · exact ok_sign (by simp)
    · exact ok_name h1
    · exact ok_sign (by simp)
  | ite nm a b h1 ha hb ih1 ih2 =>
    intro w hw
    rw [toks_if, toks_var] at hw
    simp only [List.mem_append, List.mem_cons, List.not_mem_nil, or_false] at hw
    rcases hw with rfl | rfl | rfl | hw | rfl | hw | rfl
    · exact ok_sign (by simp)
    · exact ok_name h1
    · exact ok_sign (by simp)
    · exact ih1 w hw
    · exact ok_sign (by simp)
    · exact ih2 w hw
    · exact ok_sign (by simp)
theorem glue_clean (g : Nat → Nat) : ∀ (l : List Bs) (i : Nat), (∀ w ∈ l, okW w) → ∀ c ∈ glue g i l, c.toNat < 128 ∧ (spB c = true → c = 32)
  | [], i, _, c, hc => by rw [glue] at hc; cases hc
  | w :: r, i, h, c, hc => by
    rw [glue] at hc
    rcases List.mem_append.1 hc with hc | hc
    · rw [(List.mem_replicate.1 hc).2]
      exact ⟨by decide, fun _ => rfl⟩
    rcases List.mem_append.1 hc with hc | hc
    · have := h w (by simp) c hc
      exact ⟨this.1, fun e => by rw [this.2] at e; cases e⟩
    · exact glue_clean g r (i + 1) (fun x hx => h x (by simp [hx])) c hc
theorem text_clean (g : Nat → Nat) {l : List Bs} (h : ∀ w ∈ l, okW w) : Clean (text g l) := by
  cases l with
  | nil => intro c hc; rw [text] at hc; cases hc
  | cons w r =>
    intro c hc
    rw [text] at hc
    rcases List.mem_append.1 hc with hc | hc
    · have := h w (by simp) c hc
      exact ⟨this.1, fun e => by rw [this.2] at e; cases e⟩
    · exact glue_clean g r 1 (fun x hx => h x (by simp [hx])) c hc
theorem text_head (g : Nat → Nat) {l : List Bs} (h : Fine l) : (text g l).head? ≠ some 32 := by
  cases l with
  | nil => exact absurd rfl h.ne
  | cons w r =>
    have ht := h.tk w (by simp)
    rw [text]
    cases w with
    | nil => exact absurd rfl ht.ne
    | cons c q =>
      intro e
      have e2 : c = 32 := by simpa using e
      exact ht.sp c (by simp) e2
/-! Lengths. -/
theorem flat_more (s : Bs) (hs : s.length ≤ 2) {l : List PT} (h : ∀ x ∈ l, (toks x).flatten.length + 2 ≤ 20 * x.bulk) : (toksMore s l).flatten.length ≤ 20 * PT.bulks l := by
  induction l with
  | nil => rw [toksMore]; simp
  | cons x r ih =>
    rw [toksMore, PT.bulks]
    have h1 := h x (by simp)
    have h2 := ih (fun y hy => h y (by simp [hy]))
    simp only [List.flatten_cons, List.flatten_append, List.length_append] at h1 h2 ⊢
    omega
theorem flat_sep (s : Bs) (hs : s.length ≤ 2) {l : List PT} (h0 : 0 < l.length) (h : ∀ x ∈ l, (toks x).flatten.length + 2 ≤ 20 * x.bulk) : (toksSep s l).flatten.length + 2 ≤ 20 * PT.bulks l := by
  cases l with
  | nil => simp at h0
  | cons x r =>
    rw [toksSep, PT.bulks]
    have h1 := h x (by simp)
    have h2 := flat_more s hs (l := r) (fun y hy => h y (by simp [hy]))
    simp only [List.flatten_append, List.length_append] at h1 h2 ⊢
    omega
theorem bulk_eq (k nm : Bs) (n : Int) (l : List PT) : (PT.mk k nm n l).bulk = k.length + nm.length + 1 + PT.bulks l := by rw [PT.bulk]
theorem bulks_cons (x : PT) (r : List PT) : PT.bulks (x :: r) = x.bulk + PT.bulks r := by rw [PT.bulks]
theorem toks_flat {k : Bs} {T : PT} (h : S k T) : (toks T).flatten.length + 2 ≤ 20 * T.bulk := by
  have L : kVar.length = 3 ∧ kInt.length = 3 ∧ kPos.length = 3 ∧ kEnd.length = 3 ∧ kAdd.length = 3 ∧ kIf.length = 2 ∧ kLen.length = 3 ∧ kLast.length = 4 ∧ kIndex.length = 5 := by decide
  obtain ⟨l1, l2, l3, l4, l5, l6, l7, l8, l9⟩ := L
  have D : tDot.length = 1 ∧ tPlus.length = 1 ∧ tLB.length = 1 ∧ tRB.length = 1 ∧ tLP.length = 1 ∧ tRP.length = 1 ∧ tDol.length = 1 ∧ tQ.length = 1 ∧ tCol.length = 1 := by decide
  obtain ⟨d1, d2, d3, d4, d5, d6, d7, d8, d9⟩ := D
  induction h with
  | var nm w h1 h2 => rw [toks_var, bulk_eq]; simp; omega
  | int n hn =>
    rw [toks_int, bulk_eq]
    have := digits_length 17 n (by omega)
    simp
    omega
  | pos k a hk ha ih =>
    have hkl : k.length = 3 := by rcases hk with rfl | rfl <;> decide
    rw [toks_pos hk, bulk_eq, bulks_cons]
    simp only [List.flatten_append, List.flatten_cons, List.flatten_nil, List.length_append, List.length_nil]
    omega
  | add a b ha hn hb ih1 ih2 =>
    rw [toks_add, bulk_eq, bulks_cons, bulks_cons]
    simp only [List.flatten_append, List.flatten_cons, List.length_append]
    omega
  | choice l h0 h1 h2 ih =>
    rw [toks_choice, bulk_eq]
    have := flat_sep tBar (by decide) (by omega) ih
    omega
  | nodes l h0 h1 h2 ih =>
    rw [toks_nodes, bulk_eq]
    have := flat_sep tQQ (by decide) (by omega) ih
    simp only [List.flatten_append, List.flatten_cons, List.flatten_nil, List.length_append, List.length_nil]
    omega
  | index nm b h1 hb ih =>
    rw [toks_index, toks_var, bulk_eq, bulks_cons, bulks_cons, bulk_eq]
    simp only [List.flatten_append, List.flatten_cons, List.flatten_nil, List.length_append, List.length_nil]
    omega
  | last nm h1 =>
    rw [toks_last, toks_var, bulk_eq, bulks_cons, bulk_eq]
    simp only [List.flatten_append, List.flatten_cons, List.flatten_nil, List.length_append, List.length_nil]
    omega
  | len nm h1 =>
    rw [toks_len, toks_var, bulk_eq, bulks_cons, bulk_eq]
    simp only [List.flatten_append, List.flatten_cons, List.flatten_nil, List.length_append, List.length_nil]
    omega
  | ite nm a b h1 ha hb ih1 ih2 =>
    rw [toks_if, toks_var, bulk_eq, bulks_cons, bulks_cons, bulks_cons, bulk_eq]
    simp only [List.flatten_append, List.flatten_cons, List.flatten_nil, List.length_append, List.length_nil]
    omega
theorem glue_len (g : Nat → Nat) (hg : ∀ i, g i ≤ 2) : ∀ (l : List Bs) (i : Nat), (glue g i l).length ≤ l.flatten.length + 2 * l.length
  | [], i => by simp [glue]
  | w :: r, i => by
    have h1 := glue_len g hg r (i + 1)
    have h2 := hg i
    rw [glue]
    simp only [List.length_append, List.length_replicate, List.flatten_cons, List.length_cons]
    omega
theorem text_len (g : Nat → Nat) (hg : ∀ i, g i ≤ 2) (l : List Bs) : (text g l).length ≤ l.flatten.length + 2 * l.length := by
  cases l with
  | nil => simp [text]
  | cons w r =>
    have h1 := glue_len g hg r 1
    rw [text]
    simp only [List.length_append, List.flatten_cons, List.length_cons]
    omega
end Go.Proofs.YtkcpfgnfhbbhhaaDoor.po
