/-
  The tokens of an expression of the language of positions, and a text that spells them. Conditions: of each lemma, in its statement.
-/
import Derived.Test.YtkcpfgnfhbbhhaaDoorPosT
set_option linter.unusedVariables false
namespace Go.Proofs.YtkcpfgnfhbbhhaaDoor.po

def digitsB (n : Nat) : Bs := if h : n < 10 then [UInt8.ofNat (48 + n)] else digitsB (n / 10) ++ [UInt8.ofNat (48 + n % 10)]
termination_by n
decreasing_by omega
def tDot : Bs := [46]
def tPlus : Bs := [43]
def tBar : Bs := [124, 124]
def tQQ : Bs := [63, 63]
def tLB : Bs := [91]
def tRB : Bs := [93]
def tLP : Bs := [40]
def tRP : Bs := [41]
def tDol : Bs := [36]
def tQ : Bs := [63]
def tCol : Bs := [58]
mutual
/-- The tokens of an expression. -/
def toks : PT → List Bs
  | .mk k nm i l =>
    if k = kVar then [nm]
    else if k = kInt then [digitsB i.toNat]
    else if k = kPos ∨ k = kEnd then toksAt l 0 ++ [tDot, k]
    else if k = kAdd then toksAt l 0 ++ tPlus :: toksAt l 1
    else if k = kIndex then toksAt l 0 ++ tLB :: (toksAt l 1 ++ [tRB])
    else if k = kLast then toksAt l 0 ++ [tLB, tDol, tRB]
    else if k = kLen then kLen :: tLP :: (toksAt l 0 ++ [tRP])
    else if k = kIf then tLP :: (toksAt l 0 ++ tQ :: (toksAt l 1 ++ tCol :: (toksAt l 2 ++ [tRP])))
    else if k = kNodes then tLP :: (toksSep tQQ l ++ [tRP])
    else toksSep (if k = kChoice then tBar else tQQ) l
def toksAt : List PT → Nat → List Bs
  | [], _ => []
  | x :: _, 0 => toks x
  | _ :: r, i + 1 => toksAt r i
def toksSep : Bs → List PT → List Bs
  | _, [] => []
  | s, x :: r => toks x ++ toksMore s r
def toksMore : Bs → List PT → List Bs
  | _, [] => []
  | s, x :: r => s :: (toks x ++ toksMore s r)
end
def isW (w : Bs) : Prop := w.all wordy = true
def isG (w : Bs) : Prop := w.all (fun c => !wordy c) = true
/-- A token: some bytes, no blank among them, all of words or none. -/
structure Tk (w : Bs) : Prop where
  ne : w ≠ []
  sp : ∀ c ∈ w, c ≠ 32
  kind : isW w ∨ isG w
theorem wordy_32 : wordy 32 = false := by decide
theorem Tk.w {w : Bs} (h0 : w ≠ []) (h : isW w) : Tk w := by
  refine ⟨h0, fun c hc e => ?_, .inl h⟩
  have := List.all_eq_true.1 h c hc
  rw [e, wordy_32] at this
  cases this
/-- No two words stand side by side. -/
def Good : List Bs → Prop
  | [] => True
  | [_] => True
  | a :: b :: r => ¬ (isW a ∧ isW b) ∧ Good (b :: r)
theorem not_both {w : Bs} (h0 : w ≠ []) (h : isG w) : ¬ isW w := fun h2 => by
  cases w with
  | nil => exact h0 rfl
  | cons c r =>
    simp only [isG, isW, List.all_cons, Bool.and_eq_true] at h h2
    have := h.1
    rw [h2.1] at this
    cases this
theorem Good.sign {s : Bs} {b : List Bs} (h0 : s ≠ []) (h : isG s) (hb : Good b) : Good (s :: b) := by
  cases b with
  | nil => trivial
  | cons x r => exact ⟨fun hh => not_both h0 h hh.1, hb⟩
theorem Good.app {s : Bs} (h0 : s ≠ []) (h : isG s) : ∀ {a b : List Bs}, Good a → Good b → Good (a ++ s :: b)
  | [], b, _, hb => Good.sign h0 h hb
  | [x], b, _, hb => ⟨fun hh => not_both h0 h hh.2, Good.sign h0 h hb⟩
  | x :: y :: r, b, ha, hb => ⟨ha.1, Good.app h0 h (a := y :: r) ha.2 hb⟩
theorem Good.app_end {s : Bs} (h0 : s ≠ []) (h : isG s) {a : List Bs} (ha : Good a) : Good (a ++ [s]) := Good.app h0 h ha (b := []) trivial
/-- What is wanted of tokens. -/
structure Fine (l : List Bs) : Prop where
  ne : l ≠ []
  good : Good l
  tk : ∀ w ∈ l, Tk w
theorem Fine.one {w : Bs} (h : Tk w) : Fine [w] := ⟨by simp, trivial, fun x hx => by rw [List.mem_singleton.1 hx]; exact h⟩
theorem Fine.sign {s : Bs} {b : List Bs} (hs : Tk s) (h : isG s) (hb : Fine b) : Fine (s :: b) :=
  ⟨by simp, .sign hs.ne h hb.good, fun x hx => by
    rcases List.mem_cons.1 hx with e | hx
    · rw [e]; exact hs
    · exact hb.tk x hx⟩
theorem Fine.app {s : Bs} {a b : List Bs} (hs : Tk s) (h : isG s) (ha : Fine a) (hb : Fine b) : Fine (a ++ s :: b) :=
  ⟨by simp, .app hs.ne h ha.good hb.good, fun x hx => by
    rcases List.mem_append.1 hx with hx | hx
    · exact ha.tk x hx
    · rcases List.mem_cons.1 hx with e | hx
      · rw [e]; exact hs
      · exact hb.tk x hx⟩
theorem Fine.app_end {s : Bs} {a : List Bs} (hs : Tk s) (h : isG s) (ha : Fine a) : Fine (a ++ [s]) :=
  ⟨by simp, .app_end hs.ne h ha.good, fun x hx => by
    rcases List.mem_append.1 hx with hx | hx
    · exact ha.tk x hx
    · rw [List.mem_singleton.1 hx]; exact hs⟩
theorem Tk.g {w : Bs} (h0 : w ≠ []) (hs : ∀ c ∈ w, c ≠ 32) (h : isG w) : Tk w := ⟨h0, hs, .inr h⟩
theorem name_tk {nm : Bs} (h : nameB nm = true) : Tk nm := by
  cases nm with
  | nil => cases h
  | cons c r =>
    refine .w (by simp) ?_
    simp only [nameB, wordB, Bool.and_eq_true] at h
    simp only [isW, List.all_cons, Bool.and_eq_true]
    refine ⟨?_, h.1.1.2⟩
    unfold wordy
    rw [h.1.1.1]
    rfl
theorem digit_wordy {n : Nat} (h : n < 10) : wordy (UInt8.ofNat (48 + n)) = true := by
  have : ∀ n, n < 10 → wordy (UInt8.ofNat (48 + n)) = true := by decide
  exact this n h
theorem digits_tk (n : Nat) : Tk (digitsB n) := by
  have key : ∀ n, digitsB n ≠ [] ∧ isW (digitsB n) := by
    intro n
    induction n using Nat.strongRecOn with
    | _ n ih =>
      rw [digitsB]
      split
      · rename_i h
        refine ⟨by simp, ?_⟩
        simp only [isW, List.all_cons, List.all_nil, Bool.and_true]
        exact digit_wordy h
      · rename_i h
        have := ih (n / 10) (by omega)
        refine ⟨by simp, ?_⟩
        have h2 := this.2
        simp only [isW, List.all_append, List.all_cons, List.all_nil, Bool.and_true, Bool.and_eq_true] at h2 ⊢
        exact ⟨h2, digit_wordy (Nat.mod_lt _ (by omega))⟩
  exact .w (key n).1 (key n).2
theorem toksMore_fine {s : Bs} (hs : Tk s) (hg : isG s) : ∀ (l : List PT) (a : List Bs), Fine a → (∀ x ∈ l, Fine (toks x)) → Fine (a ++ toksMore s l)
  | [], a, ha, _ => by rw [toksMore, List.append_nil]; exact ha
  | x :: r, a, ha, h => by
    rw [toksMore]
    have h1 := Fine.app hs hg ha (h x List.mem_cons_self)
    have h2 := toksMore_fine hs hg r _ h1 (fun y hy => h y (List.mem_cons_of_mem _ hy))
    simpa [List.append_assoc] using h2
theorem toksSep_fine {s : Bs} (hs : Tk s) (hg : isG s) {l : List PT} (h0 : 1 < l.length) (h : ∀ x ∈ l, Fine (toks x)) : Fine (toksSep s l) := by
  cases l with
  | nil => simp at h0
  | cons x r =>
    rw [toksSep]
    exact toksMore_fine hs hg r _ (h x List.mem_cons_self) (fun y hy => h y (List.mem_cons_of_mem _ hy))
theorem toks_var (nm : Bs) : toks (.mk kVar nm 0 []) = [nm] := by rw [toks, if_pos rfl]
theorem toks_int (n : Nat) : toks (.mk kInt [] n []) = [digitsB n] := by
  rw [toks, if_neg (by decide), if_pos rfl]
  rfl
theorem toks_pos {k : Bs} (hk : k = kPos ∨ k = kEnd) (a : PT) : toks (.mk k [] 0 [a]) = toks a ++ [tDot, k] := by
  rw [toks, if_neg (by rcases hk with rfl | rfl <;> decide), if_neg (by rcases hk with rfl | rfl <;> decide), if_pos hk, toksAt]
theorem toks_add (a b : PT) : toks (.mk kAdd [] 0 [a, b]) = toks a ++ tPlus :: toks b := by
  rw [toks, if_neg (by decide), if_neg (by decide), if_neg (by decide), if_pos rfl]
  rw [toksAt, toksAt, toksAt]
theorem toks_index (a b : PT) : toks (.mk kIndex [] 0 [a, b]) = toks a ++ tLB :: (toks b ++ [tRB]) := by
  rw [toks, if_neg (by decide), if_neg (by decide), if_neg (by decide), if_neg (by decide), if_pos rfl]
  rw [toksAt, toksAt, toksAt]
theorem toks_last (a : PT) : toks (.mk kLast [] 0 [a]) = toks a ++ [tLB, tDol, tRB] := by
  rw [toks, if_neg (by decide), if_neg (by decide), if_neg (by decide), if_neg (by decide), if_neg (by decide), if_pos rfl, toksAt]
theorem toks_len (a : PT) : toks (.mk kLen [] 0 [a]) = kLen :: tLP :: (toks a ++ [tRP]) := by
  rw [toks, if_neg (by decide), if_neg (by decide), if_neg (by decide), if_neg (by decide), if_neg (by decide), if_neg (by decide), if_pos rfl, toksAt]
theorem toks_if (a b c : PT) : toks (.mk kIf [] 0 [a, b, c]) = tLP :: (toks a ++ tQ :: (toks b ++ tCol :: (toks c ++ [tRP]))) := by
  rw [toks, if_neg (by decide), if_neg (by decide), if_neg (by decide), if_neg (by decide), if_neg (by decide), if_neg (by decide), if_neg (by decide), if_pos rfl]
  simp only [toksAt]
theorem toks_nodes (l : List PT) : toks (.mk kNodes [] 0 l) = tLP :: (toksSep tQQ l ++ [tRP]) := by
  rw [toks, if_neg (by decide), if_neg (by decide), if_neg (by decide), if_neg (by decide), if_neg (by decide), if_neg (by decide), if_neg (by decide), if_neg (by decide), if_pos rfl]
theorem toks_choice (l : List PT) : toks (.mk kChoice [] 0 l) = toksSep tBar l := by
  rw [toks, if_neg (by decide), if_neg (by decide), if_neg (by decide), if_neg (by decide), if_neg (by decide), if_neg (by decide), if_neg (by decide), if_neg (by decide), if_neg (by decide), if_pos rfl]
theorem toks_fine {w : Bs} {t : PT} (h : S w t) : Fine (toks t) := by
  have g : ∀ {s : Bs}, s ∈ [tDot, tPlus, tBar, tQQ, tLB, tRB, tLP, tRP, tDol, tQ, tCol] → Tk s ∧ isG s := by
    intro s hs
    have h1 : ∀ s ∈ [tDot, tPlus, tBar, tQQ, tLB, tRB, tLP, tRP, tDol, tQ, tCol], s ≠ [] ∧ (∀ c ∈ s, c ≠ 32) ∧ s.all (fun c => !wordy c) = true := by decide
    have := h1 s hs
    exact ⟨.g this.1 this.2.1 this.2.2, this.2.2⟩
  have wd : ∀ {s : Bs}, s ∈ [kPos, kEnd, kLen] → Tk s := by
    intro s hs
    have h1 : ∀ s ∈ [kPos, kEnd, kLen], s ≠ [] ∧ s.all wordy = true := by decide
    exact .w (h1 s hs).1 (h1 s hs).2
  induction h with
  | var nm w h1 h2 => rw [toks_var]; exact .one (name_tk h1)
  | int n h1 => rw [toks_int]; exact .one (digits_tk n)
  | pos k a hk ha ih =>
    rw [toks_pos hk]
    exact .app (g (by simp)).1 (g (by simp)).2 ih (.one (wd (by rcases hk with rfl | rfl <;> simp)))
  | add a b ha hn hb ih1 ih2 => rw [toks_add]; exact .app (g (by simp)).1 (g (by simp)).2 ih1 ih2
  | choice l h0 h1 h2 ih => rw [toks_choice]; exact toksSep_fine (g (by simp)).1 (g (by simp)).2 h0 ih
  | nodes l h0 h1 h2 ih => rw [toks_nodes]; exact .sign (g (by simp)).1 (g (by simp)).2 (.app_end (g (by simp)).1 (g (by simp)).2 (toksSep_fine (g (by simp)).1 (g (by simp)).2 h0 ih))
  | index nm b h1 hb ih =>
    rw [toks_index, toks_var]
    exact .app (g (by simp)).1 (g (by simp)).2 (.one (name_tk h1)) (.app_end (g (by simp)).1 (g (by simp)).2 ih)
  | last nm h1 =>
    rw [toks_last, toks_var]
    exact .app (g (by simp)).1 (g (by simp)).2 (.one (name_tk h1)) (.sign (g (by simp)).1 (g (by simp)).2 (.one (g (by simp)).1))
  | len nm h1 =>
    rw [toks_len, toks_var]
    exact .app (a := [kLen]) (g (by simp)).1 (g (by simp)).2 (.one (wd (by simp))) (.app_end (g (by simp)).1 (g (by simp)).2 (.one (name_tk h1)))
  | ite nm a b h1 ha hb ih1 ih2 =>
    rw [toks_if, toks_var]
    exact .sign (g (by simp)).1 (g (by simp)).2 (.app (g (by simp)).1 (g (by simp)).2 (.one (name_tk h1)) (.app (g (by simp)).1 (g (by simp)).2 ih1 (.app_end (g (by simp)).1 (g (by simp)).2 ih2)))
/-- A text that spells tokens, each with the blanks behind it, up to another text. -/
inductive Spell : List Bs → Bs → Bs → Prop where
  | nil (t : Bs) : Spell [] t t
  | cons (w : Bs) (ts : List Bs) (b t t' : Bs) : (∀ c ∈ b, c = 32) → t.head? ≠ some 32 → (isW w → ∀ c, (b ++ t).head? = some c → wordy c = false) → Spell ts t t' → Spell (w :: ts) (w ++ (b ++ t)) t'
theorem Spell.parts : ∀ {a b : List Bs} {t t' : Bs}, Spell (a ++ b) t t' → ∃ m, Spell a t m ∧ Spell b m t'
  | [], b, t, t', h => ⟨t, .nil t, h⟩
  | x :: r, b, t, t', h => by
    cases h with
    | cons w ts bl m t' h1 h2 h3 h4 =>
      obtain ⟨m2, h5, h6⟩ := Spell.parts (a := r) h4
      exact ⟨m2, .cons _ _ _ _ _ h1 h2 h3 h5, h6⟩
/-- The law's text: blanks between the tokens, g i of them ahead of the i-th. -/
def glue (g : Nat → Nat) : Nat → List Bs → Bs
  | _, [] => []
  | i, w :: r => List.replicate (g i) 32 ++ (w ++ glue g (i + 1) r)
theorem head_rep {n : Nat} {w r : Bs} (h : w ≠ []) (c : UInt8) (hc : (List.replicate n 32 ++ (w ++ r)).head? = some c) : c = 32 ∨ w.head? = some c := by
  cases n with
  | zero =>
    right
    cases w with
    | nil => exact absurd rfl h
    | cons x y => simpa using hc
  | succ n =>
    left
    simp [List.replicate_succ] at hc
    exact hc.symm
theorem spell_glue (g : Nat → Nat) : ∀ (l : List Bs) (i : Nat) (w : Bs), Good (w :: l) → (∀ x ∈ w :: l, Tk x) → Spell (w :: l) (w ++ glue g (i + 1) l) []
  | [], i, w, _, hT => by
    have := Spell.cons w [] [] [] [] (by simp) (by simp) (by simp) (.nil [])
    simpa [glue] using this
  | x :: r, i, w, hG, hT => by
    have ih := spell_glue g r (i + 1) x hG.2 (fun y hy => hT y (List.mem_cons_of_mem _ hy))
    have hx := hT x (by simp)
    have := Spell.cons w (x :: r) (List.replicate (g (i + 1)) 32) (x ++ glue g (i + 1 + 1) r) [] (fun c hc => (List.mem_replicate.1 hc).2) ?_ ?_ ih
    · simpa [glue] using this
    · intro e
      cases hxx : x with
      | nil => exact hx.ne hxx
      | cons c y =>
        rw [hxx] at e
        have : c = 32 := by simpa using e
        exact hx.sp c (by rw [hxx]; simp) this
    · intro hw c hc
      rcases head_rep hx.ne c hc with rfl | hc
      · exact wordy_32
      · rcases hx.kind with hk | hk
        · exact absurd ⟨hw, hk⟩ hG.1
        · cases hxx : x with
          | nil => exact absurd hxx hx.ne
          | cons a y =>
            rw [hxx] at hc hk
            have e : a = c := by simpa using hc
            simp only [isG, List.all_cons, Bool.and_eq_true] at hk
            rw [← e]
            simpa using hk.1
end Go.Proofs.YtkcpfgnfhbbhhaaDoor.po
