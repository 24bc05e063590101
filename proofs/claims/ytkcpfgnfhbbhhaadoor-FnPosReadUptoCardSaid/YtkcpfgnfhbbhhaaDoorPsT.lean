/-
  The parser's trees in memory; how a text's tokens are met. Conditions: in the statements.
-/
import Derived.Test.YtkcpfgnfhbbhhaaDoorPsE
import Derived.Test.YtkcpfgnfhbbhhaaDoorPosG
set_option linter.unusedVariables false
set_option linter.unusedSimpArgs false
namespace Go.Proofs.YtkcpfgnfhbbhhaaDoor.po
open Go.RowKit

abbrev ptr (b : Nat) : Value := .pointer (some ⟨b, 0, none⟩)
def obj (w : World) (b : Nat) (cs : Array Value) (t : TypeId) : Prop := w.heap[b]? = some (.cells cs t (0, 0))
/-- An expression that the parser has built; each of its blocks is of P. -/
inductive Tree (P : Nat → Prop) (W : World) : PT → Value → Prop where
  | var (nm : Bs) (b : Nat) : P b → obj W b #[.string ⟨nm.toArray⟩] 58 → Tree P W (.mk kVar nm 0 []) (.iface 56 (ptr b))
  | int (n : Int) (b : Nat) : P b → obj W b #[.int .i64 n] 94 → Tree P W (.mk kInt [] n []) (.iface 92 (ptr b))
  | pos (a : PT) (va : Value) (b : Nat) : P b → obj W b #[va] 63 → Tree P W a va → Tree P W (.mk kPos [] 0 [a]) (.iface 59 (ptr b))
  | fin (a : PT) (va : Value) (b : Nat) : P b → obj W b #[va] 65 → Tree P W a va → Tree P W (.mk kEnd [] 0 [a]) (.iface 64 (ptr b))
  | add (a c : PT) (va vc : Value) (b : Nat) : P b → obj W b #[va, vc] 78 → Tree P W a va → Tree P W c vc → Tree P W (.mk kAdd [] 0 [a, c]) (.iface 74 (ptr b))
  | index (a c : PT) (va vc : Value) (b : Nat) : P b → obj W b #[va, vc] 83 → Tree P W a va → Tree P W c vc → Tree P W (.mk kIndex [] 0 [a, c]) (.iface 79 (ptr b))
  | last (a : PT) (va : Value) (b : Nat) : P b → obj W b #[va] 86 → Tree P W a va → Tree P W (.mk kLast [] 0 [a]) (.iface 84 (ptr b))
  | len (a : PT) (va : Value) (b : Nat) : P b → obj W b #[va] 91 → Tree P W a va → Tree P W (.mk kLen [] 0 [a]) (.iface 87 (ptr b))
  | ite (a c d : PT) (va vc vd : Value) (b : Nat) : P b → obj W b #[va, vc, vd] 99 → Tree P W a va → Tree P W c vc → Tree P W d vd → Tree P W (.mk kIf [] 0 [a, c, d]) (.iface 95 (ptr b))
  | choice (l : List PT) (vs : List Value) (b g cap : Nat) : P b → P g → g < W.heap.size → obj W b #[.slice (some ⟨g, 0, none⟩) l.length cap] 69 → vs.length = l.length → (∀ i (h : i < vs.length), W.cell? ⟨g, i, none⟩ = some vs[i]) → (∀ i (h : i < l.length) (h2 : i < vs.length), Tree P W l[i] vs[i]) → Tree P W (.mk kChoice [] 0 l) (.iface 66 (ptr b))
  | nodes (l : List PT) (vs : List Value) (b g cap : Nat) : P b → P g → g < W.heap.size → obj W b #[.slice (some ⟨g, 0, none⟩) l.length cap] 73 → vs.length = l.length → (∀ i (h : i < vs.length), W.cell? ⟨g, i, none⟩ = some vs[i]) → (∀ i (h : i < l.length) (h2 : i < vs.length), Tree P W l[i] vs[i]) → Tree P W (.mk kNodes [] 0 l) (.iface 70 (ptr b))
theorem obj.grown {b : Nat} {row : Option Nat} {W W' : World} {cs : Array Value} {t : TypeId} (h : obj W b cs t) (hb : some b ≠ row) (hg : W.grownBy W' row) : obj W' b cs t :=
  (hg.block b (lt_of_heap h) hb).trans h
theorem row_cell {a b : World} {row : Option Nat} {x o : Nat} (h : a.grownBy b row) (hx : x < a.heap.size) (hn : some x ≠ row) : b.cell? ⟨x, o, none⟩ = a.cell? ⟨x, o, none⟩ := by
  have := h.block x hx hn
  simp [World.cell?, this]
theorem Tree.grown {P : Nat → Prop} {row : Option Nat} {W W' : World} (hg : W.grownBy W' row) (hP : ∀ b, b < W.heap.size → P b → some b ≠ row) {T : PT} {v : Value} (h : Tree P W T v) : Tree P W' T v := by
  induction h with
  | var nm b h1 h2 => exact .var nm b h1 (h2.grown (hP b (lt_of_heap h2) h1) hg)
  | int n b h1 h2 => exact .int n b h1 (h2.grown (hP b (lt_of_heap h2) h1) hg)
  | pos a va b h1 h2 h3 ih => exact .pos a va b h1 (h2.grown (hP b (lt_of_heap h2) h1) hg) ih
  | fin a va b h1 h2 h3 ih => exact .fin a va b h1 (h2.grown (hP b (lt_of_heap h2) h1) hg) ih
  | add a c va vc b h1 h2 h3 h4 ih1 ih2 => exact .add a c va vc b h1 (h2.grown (hP b (lt_of_heap h2) h1) hg) ih1 ih2
  | index a c va vc b h1 h2 h3 h4 ih1 ih2 => exact .index a c va vc b h1 (h2.grown (hP b (lt_of_heap h2) h1) hg) ih1 ih2
  | last a va b h1 h2 h3 ih => exact .last a va b h1 (h2.grown (hP b (lt_of_heap h2) h1) hg) ih
  | len a va b h1 h2 h3 ih => exact .len a va b h1 (h2.grown (hP b (lt_of_heap h2) h1) hg) ih
  | ite a c d va vc vd b h1 h2 h3 h4 h5 ih1 ih2 ih3 => exact .ite a c d va vc vd b h1 (h2.grown (hP b (lt_of_heap h2) h1) hg) ih1 ih2 ih3
  | choice l vs b g cap h1 h2 h3 h4 h5 h6 h7 ih => exact .choice l vs b g cap h1 h2 (Nat.lt_of_lt_of_le h3 hg.size) (h4.grown (hP b (lt_of_heap h4) h1) hg) h5 (fun i hi => (row_cell hg h3 (hP g h3 h2)).trans (h6 i hi)) ih
  | nodes l vs b g cap h1 h2 h3 h4 h5 h6 h7 ih => exact .nodes l vs b g cap h1 h2 (Nat.lt_of_lt_of_le h3 hg.size) (h4.grown (hP b (lt_of_heap h4) h1) hg) h5 (fun i hi => (row_cell hg h3 (hP g h3 h2)).trans (h6 i hi)) ih
theorem Tree.mono {P Q : Nat → Prop} {W : World} (hP : ∀ b, b < W.heap.size → P b → Q b) {T : PT} {v : Value} (h : Tree P W T v) : Tree Q W T v := by
  induction h with
  | var nm b h1 h2 => exact .var nm b (hP b (lt_of_heap h2) h1) h2
  | int n b h1 h2 => exact .int n b (hP b (lt_of_heap h2) h1) h2
  | pos a va b h1 h2 h3 ih => exact .pos a va b (hP b (lt_of_heap h2) h1) h2 ih
  | fin a va b h1 h2 h3 ih => exact .fin a va b (hP b (lt_of_heap h2) h1) h2 ih
  | add a c va vc b h1 h2 h3 h4 ih1 ih2 => exact .add a c va vc b (hP b (lt_of_heap h2) h1) h2 ih1 ih2
  | index a c va vc b h1 h2 h3 h4 ih1 ih2 => exact .index a c va vc b (hP b (lt_of_heap h2) h1) h2 ih1 ih2
  | last a va b h1 h2 h3 ih => exact .last a va b (hP b (lt_of_heap h2) h1) h2 ih
  | len a va b h1 h2 h3 ih => exact .len a va b (hP b (lt_of_heap h2) h1) h2 ih
  | ite a c d va vc vd b h1 h2 h3 h4 h5 ih1 ih2 ih3 => exact .ite a c d va vc vd b (hP b (lt_of_heap h2) h1) h2 ih1 ih2 ih3
  | choice l vs b g cap h1 h2 h3 h4 h5 h6 h7 ih => exact .choice l vs b g cap (hP b (lt_of_heap h4) h1) (hP g h3 h2) h3 h4 h5 h6 ih
  | nodes l vs b g cap h1 h2 h3 h4 h5 h6 h7 ih => exact .nodes l vs b g cap (hP b (lt_of_heap h4) h1) (hP g h3 h2) h3 h4 h5 h6 ih
/-- The blocks that were not yet there in a world. -/
def From (w : World) (b : Nat) : Prop := w.heap.size ≤ b

/-! ### Tokens -/
/-- A text of bytes that are no white space but blanks. -/
def Clean (txt : Bs) : Prop := ∀ c ∈ txt, c.toNat < 128 ∧ (spB c = true → c = 32)
theorem spB_32 : spB 32 = true := by decide
theorem wB_eq : ∀ c : UInt8, c.toNat < 128 → wB c = wordy c := by
  have key : ∀ n, n < 128 → wB (UInt8.ofNat n) = wordy (UInt8.ofNat n) := by decide +kernel
  intro c hc
  have := key c.toNat hc
  rwa [UInt8.ofNat_toNat] at this
theorem dB_eq : ∀ c : UInt8, c.toNat < 128 → dB c = digB c := by
  have key : ∀ n, n < 128 → dB (UInt8.ofNat n) = digB (UInt8.ofNat n) := by decide +kernel
  intro c hc
  have := key c.toNat hc
  rwa [UInt8.ofNat_toNat] at this
theorem lB_eq : ∀ c : UInt8, c.toNat < 128 → letB c = true → c ≠ 95 → lB c = true := by
  have key : ∀ n, n < 128 → letB (UInt8.ofNat n) = true → UInt8.ofNat n ≠ 95 → lB (UInt8.ofNat n) = true := by decide +kernel
  intro c hc
  have := key c.toNat hc
  rwa [UInt8.ofNat_toNat] at this
theorem digB_wordy {c : UInt8} (h : digB c = true) : wordy c = true := by unfold wordy; rw [h]; simp
theorem drop_blanks {txt b t : Bs} (hcl : Clean txt) (hs : b ++ t <:+ txt) (hb : ∀ c ∈ b, c = 32) (ht : t.head? ≠ some 32) : (b ++ t).dropWhile spB = t := by
  induction b with
  | nil =>
    cases t with
    | nil => rfl
    | cons c r =>
      have h1 := hcl c (hs.subset (by simp))
      have : spB c = false := by
        rw [Bool.eq_false_iff]
        intro e
        exact ht (by rw [h1.2 e]; rfl)
      rw [List.nil_append, List.dropWhile_cons, this]
      rfl
  | cons x y ih =>
    rw [List.cons_append, List.dropWhile_cons, hb x (by simp), spB_32, if_pos rfl]
    exact ih ((List.suffix_cons x (y ++ t)).trans hs) (fun c hc => hb c (by simp [hc]))
/-- The next token of t is s; behind it and its blanks t1 is still to come. -/
structure Step (s t t1 : Bs) : Prop where
  u : ∃ u, t = s ++ u ∧ u.dropWhile spB = t1
  w : isW s → t.takeWhile wB = s ∧ (t.dropWhile wB).dropWhile spB = t1
  d : (∀ c ∈ s, digB c = true) → t.takeWhile dB = s ∧ (t.dropWhile dB).dropWhile spB = t1
theorem stop_while {f : UInt8 → Bool} {s u : Bs} (h1 : ∀ c ∈ s, f c = true) (h2 : ∀ c, u.head? = some c → f c = false) : (s ++ u).takeWhile f = s ∧ (s ++ u).dropWhile f = u := by
  have h := while_all s h1 u
  rw [h.1, h.2]
  cases u with
  | nil => simp
  | cons c r =>
    have := h2 c rfl
    simp [List.takeWhile_cons, List.dropWhile_cons, this]
theorem Spell.step {txt s t t' : Bs} {ts : List Bs} (hcl : Clean txt) (hs : t <:+ txt) (h : Spell (s :: ts) t t') : ∃ t1, Step s t t1 ∧ Spell ts t1 t' ∧ t1 <:+ txt := by
  cases h with
  | cons w ts b t1 t' h1 h2 h3 h4 =>
    have hsu : b ++ t1 <:+ txt := (List.suffix_append s (b ++ t1)).trans hs
    have hd := drop_blanks hcl hsu h1 h2
    have hasc : ∀ c ∈ s ++ (b ++ t1), c.toNat < 128 := fun c hc => (hcl c (hs.subset hc)).1
    have hnx : isW s → ∀ c, (b ++ t1).head? = some c → wordy c = false := h3
    refine ⟨t1, ⟨⟨_, rfl, hd⟩, fun hw => ?_, fun hg => ?_⟩, h4, (List.suffix_append b t1).trans hsu⟩
    · have := stop_while (f := wB) (s := s) (u := b ++ t1) (fun c hc => by rw [wB_eq c (hasc c (by simp [hc]))]; exact List.all_eq_true.1 hw c hc) (fun c hc => by
        rw [wB_eq c (hasc c (by
          have := List.mem_of_mem_head? hc
          simp at this ⊢
          exact .inr this))]
        exact hnx hw c hc)
      rw [this.1, this.2]
      exact ⟨rfl, hd⟩
    · have hw : isW s := by
        unfold isW
        rw [List.all_eq_true]
        exact fun c hc => digB_wordy (hg c hc)
      have := stop_while (f := dB) (s := s) (u := b ++ t1) (fun c hc => by rw [dB_eq c (hasc c (by simp [hc]))]; exact hg c hc) (fun c hc => by
        rw [dB_eq c (hasc c (by
          have := List.mem_of_mem_head? hc
          simp at this ⊢
          exact .inr this))]
        have h5 := hnx hw c hc
        rw [Bool.eq_false_iff]
        intro e
        rw [digB_wordy e] at h5
        cases h5)
      rw [this.1, this.2]
      exact ⟨rfl, hd⟩
theorem Step.head {s t t1 : Bs} (h : Step s t t1) (h0 : s ≠ []) : t.head? = s.head? := by
  obtain ⟨u, rfl, _⟩ := h.u
  cases s with
  | nil => exact absurd rfl h0
  | cons c r => rfl
theorem no_prefix {s t : Bs} (h0 : s ≠ []) (h : t.head? ≠ s.head?) : ¬ s <+: t := fun ⟨u, e⟩ => h (by
  rw [← e]
  cases s with
  | nil => exact absurd rfl h0
  | cons c r => rfl)
section
variable {pb sb cap : Nat} {txt t t1 t' : Bs} {w w' : World}
theorem sign_step (s : ByteArray) (h : PS pb sb cap txt t w) (hs : Step s.data.toList t t1) (h0 : 0 < s.size) (h1 : s.size ≤ 100) : Calls Tryd.prog 28 #[.pointer (some ⟨pb, 0, none⟩), .string s] w (Ps pb sb cap txt (.bool true) t1 w) := by
  obtain ⟨u, rfl, hu⟩ := hs.u
  rw [← hu]
  exact cons_yes s h h0 h1
theorem expect_step (s : ByteArray) (h : PS pb sb cap txt t w) (hs : Step s.data.toList t t1) (h0 : 0 < s.size) (h1 : s.size ≤ 100) : Calls Tryd.prog 36 #[.pointer (some ⟨pb, 0, none⟩), .string s] w (Ps pb sb cap txt (.tuple #[]) t1 w) := by
  obtain ⟨u, rfl, hu⟩ := hs.u
  rw [← hu]
  exact expect_any s h h0 h1
theorem no_step (s : ByteArray) (h : PS pb sb cap txt t w) (hs : t.head? ≠ s.data.toList.head?) (h0 : 0 < s.size) (h1 : s.size ≤ 100) : Calls Tryd.prog 28 #[.pointer (some ⟨pb, 0, none⟩), .string s] w (Ps pb sb cap txt (.bool false) t w) :=
  cons_no h s h0 h1 (no_prefix (fun e => by have h2 := (show s.data.toList.length = s.size from Array.length_toList ..); rw [e] at h2; simp at h2; omega) hs)
/-- A word that begins with a letter. -/
def isL (s : Bs) : Prop := isW s ∧ ∃ c r, s = c :: r ∧ letB c = true ∧ c ≠ 95
theorem var_step {s : Bs} (h : PS pb sb cap txt t w) (hs : Step s t t1) (hl : isL s) : Calls Tryd.prog 35 #[.pointer (some ⟨pb, 0, none⟩)] w (VarOut pb sb cap txt s t1 w) := by
  obtain ⟨hw, c, r, rfl, hc1, hc2⟩ := hl
  obtain ⟨e1, e2⟩ := hs.w hw
  obtain ⟨u, rfl, hu⟩ := hs.u
  rw [List.cons_append] at h e1 e2
  have hc : c.toNat < 128 := h.head
  have := pvar_any h (lB_eq c hc hc1 hc2)
  rw [e1, e2] at this
  exact this
theorem cvar_step {s : Bs} (h : PS pb sb cap txt t w) (hs : Step s t t1) (hl : isL s) : Calls Tryd.prog 38 #[.pointer (some ⟨pb, 0, none⟩)] w (VarOut pb sb cap txt s t1 w) := by
  obtain ⟨hw, c, r, rfl, hc1, hc2⟩ := hl
  obtain ⟨e1, e2⟩ := hs.w hw
  obtain ⟨u, rfl, hu⟩ := hs.u
  rw [List.cons_append] at h e1 e2
  have hc : c.toNat < 128 := h.head
  have := cvar_any h (lB_eq c hc hc1 hc2)
  rw [e1, e2] at this
  exact this
theorem int_step {n : Nat} (h : PS pb sb cap txt t w) (hs : Step (digitsB n) t t1) (hn : n < 1099511627776) : Calls Tryd.prog 37 #[.pointer (some ⟨pb, 0, none⟩)] w (IntOut pb sb cap txt n t1 w) := by
  have hd := digits_all n
  obtain ⟨e1, e2⟩ := hs.d (fun c hc => (hd.2 c hc).2.2)
  have ha := atoi_digits n
  have hl := digits_length 17 n (by omega)
  obtain ⟨u, rfl, hu⟩ := hs.u
  cases hg : digitsB n with
  | nil => exact absurd hg hd.1
  | cons c r =>
    have hdc := (hd.2 c (by rw [hg]; simp)).2.2
    rw [hg, List.cons_append] at h e1 e2
    rw [hg] at ha hl
    have hc : c.toNat < 128 := h.head
    have := cint_yes (n := (n : Int)) h (by rw [dB_eq c hc]; exact hdc) (by rw [e1]; exact ha) (by rw [e1]; exact hl)
    rw [e2] at this
    exact this
theorem noint_step {c : UInt8} (h : PS pb sb cap txt t w) (hc : t.head? = some c) (hd : digB c = false) : Calls Tryd.prog 37 #[.pointer (some ⟨pb, 0, none⟩)] w (Ps pb sb cap txt (.pointer none) t w) := by
  cases t with
  | nil => cases hc
  | cons c' r =>
    have e : c' = c := by simpa using hc
    subst e
    exact cint_no h (by rw [dB_eq _ h.head]; exact hd)
/-- A function of the parser answers with an expression. -/
def TreeOut (pb sb cap : Nat) (txt : Bs) (T : PT) (t' : Bs) (w : World) (e : Ending) (w' : World) : Prop := ∃ ty b, e = .returned (.iface ty (.pointer (some ⟨b, 0, none⟩))) ∧ Tree (From w) w' T (.iface ty (.pointer (some ⟨b, 0, none⟩))) ∧ PS pb sb cap txt t' w' ∧ w.grownBy w' (some pb)
end
end Go.Proofs.YtkcpfgnfhbbhhaaDoor.po
