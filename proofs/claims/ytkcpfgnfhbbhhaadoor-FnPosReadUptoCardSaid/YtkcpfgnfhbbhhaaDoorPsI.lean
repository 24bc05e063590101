/-
  The parser of positions: numbers, lengths, choices of numbers (parseIntAtom). Conditions: in the statement.
-/
import Derived.Test.YtkcpfgnfhbbhhaaDoorPsT
set_option linter.unusedVariables false
set_option linter.unusedSimpArgs false
namespace Go.Proofs.YtkcpfgnfhbbhhaaDoor.po
open Go.RowKit
section
variable {pb sb cap : Nat} {txt t t1 t' : Bs} {w w' : World}
theorem name_L {nm : Bs} (h : nameB nm = true) : isL nm := by
  cases nm with
  | nil => cases h
  | cons c r =>
    simp only [nameB, wordB, Bool.and_eq_true, decide_eq_true_eq] at h
    obtain ⟨⟨⟨h1, h2⟩, h3⟩, h4⟩ := h
    refine ⟨?_, c, r, rfl, h1, fun e => h3 (by rw [e]; rfl)⟩
    unfold isW
    rw [List.all_cons, h2, Bool.and_true]
    unfold wordy
    rw [h1]
    rfl
theorem word_L {s : Bs} (h : s ∈ [kPos, kEnd, kLen]) : isL s := by
  have key : ∀ s ∈ [kPos, kEnd, kLen], s.all wordy = true ∧ ∃ c r, s = c :: r ∧ letB c = true ∧ c ≠ 95 := by
    intro s hs
    rcases List.mem_cons.1 hs with rfl | hs
    · exact ⟨by decide, _, _, rfl, by decide, by decide⟩
    rcases List.mem_cons.1 hs with rfl | hs
    · exact ⟨by decide, _, _, rfl, by decide, by decide⟩
    rcases List.mem_cons.1 hs with rfl | hs
    · exact ⟨by decide, _, _, rfl, by decide, by decide⟩
    cases hs
  exact key s h
theorem Spell.rest_suf {ts : List Bs} {txt t t' : Bs} (h : Spell ts t t') (hs : t <:+ txt) : t' <:+ txt := by
  induction h with
  | nil t => exact hs
  | cons w ts b t t' h1 h2 h3 h4 ih => exact ih ((List.suffix_append b t).trans ((List.suffix_append w (b ++ t)).trans hs))
theorem PS.suf' (h : PS pb sb cap txt t w) : t <:+ txt := h.suf
theorem VarOut.tree {nm : Bs} {b : Nat} (h1 : w.heap.size ≤ b) (h2 : w'.heap[b]? = some (.cells #[.string ⟨nm.toArray⟩] 58 (0, 0))) : Tree (From w) w' (.mk kVar nm 0 []) (.iface 56 (ptr b)) := .var nm b h1 h2
theorem new_obj (w : World) (cs : Array Value) (t : TypeId) : obj (w.alloc (.cells cs t)) w.heap.size cs t := heap_alloc_new w _
theorem dig_head (n : Nat) : ∃ c r, digitsB n = c :: r ∧ digB c = true := by
  have h := digits_all n
  cases hd : digitsB n with
  | nil => exact absurd hd h.1
  | cons c r => exact ⟨c, r, rfl, (h.2 c (by rw [hd]; simp)).2.2⟩
theorem dig_ne {c : UInt8} (h : digB c = true) : c ≠ 40 := fun e => by subst e; revert h; decide
/-- What is under way: t is to come in the world W. -/
structure Way (pb sb cap : Nat) (txt t : Bs) (w W : World) : Prop where
  ps : PS pb sb cap txt t W
  g : w.grownBy W (some pb)
  lt : pb < w.heap.size
theorem Way.go {t1 : Bs} {W W' : World} (h : Way pb sb cap txt t w W) (hp : PS pb sb cap txt t1 W') (hg : W.grownBy W' (some pb)) : Way pb sb cap txt t1 w W' := ⟨hp, grown_trans h.g hg, h.lt⟩
theorem Way.tree {W W' : World} {T : PT} {v : Value} (h : Way pb sb cap txt t w W) (hT : Tree (From W) W' T v) : Tree (From w) W' T v := hT.mono fun b _ hb => Nat.le_trans h.g.size hb
theorem Way.keep {W W' : World} {T : PT} {v : Value} (h : Way pb sb cap txt t w W) (hg : W.grownBy W' (some pb)) (hT : Tree (From w) W T v) : Tree (From w) W' T v := hT.grown hg fun b _ hb e => by
  have h1 := h.lt
  have h2 : w.heap.size ≤ b := hb
  have h3 : b = pb := by simpa using e
  omega
set_option maxHeartbeats 4000000 in
set_option maxRecDepth 100000 in
theorem int_any (hcl : Clean txt) {k : Bs} {T : PT} (hS : S k T) : k = sI → ∀ (w : World) (t t' : Bs), PS pb sb cap txt t w → Spell (toks T) t t' → Calls Tryd.prog 31 #[.pointer (some ⟨pb, 0, none⟩)] w (TreeOut pb sb cap txt T t' w) := by
  induction hS with
  | var nm w h1 h2 => exact fun e => absurd e h2
  | pos k a hk ha ih => exact fun e => absurd e (by decide)
  | add a b ha hn hb ih1 ih2 => exact fun e => absurd e (by decide)
  | choice l h0 h1 h2 ih => exact fun e => absurd e (by decide)
  | nodes l h0 h1 h2 ih => exact fun e => absurd e (by decide)
  | index nm b h1 hb ih => exact fun e => absurd e (by decide)
  | last nm h1 => exact fun e => absurd e (by decide)
  | int n hn =>
    intro _ w t t' h hs
    rw [toks_int] at hs
    obtain ⟨t1, k1, hs, hf⟩ := hs.step hcl h.suf
    cases hs
    have HW : Hid (Way pb sb cap txt t w w) := ⟨h, grown_refl _ _, h.at_lt⟩
    obtain ⟨c, r, hc, hd⟩ := dig_head n
    have HH : Hid (t.head? = some c) := by show t.head? = some c; rw [k1.head (by rw [hc]; simp), hc]; rfl
    have HD := Lib.hid hd
    have HK := Lib.hid k1
    have HN := Lib.hid hn
    clear h hc hd k1 hn hf
    go_enter Tryd.func31, Tryd.ntmps31
    go_wp2_with fail
    refine (no_step ⟨#[40]⟩ HW.out.ps (by rw [HH.out]; intro e; exact dig_ne HD.out (by simpa using e)) (by decide) (by decide)).mono ?_
    rintro e w2 ⟨rfl, hp, hg⟩
    have HW2 := Lib.hid (HW.out.go hp hg)
    clear hp hg
    go_wp2_with fail
    refine (int_step HW2.out.ps HK.out HN.out).mono ?_
    rintro e w3 ⟨b, rfl, hb, ho, hp, hg⟩
    have HW3 := Lib.hid (HW2.out.go hp hg)
    have HT : Hid (Tree (From w) w3 (.mk kInt [] n []) (.iface 92 (ptr b))) := HW2.out.tree (.int n b hb ho)
    clear hb ho hp hg
    go_wp2_with fail
    go_ret
    exact ⟨_, _, rfl, HT.out, HW3.out.ps, HW3.out.g⟩
  | len nm h1 =>
    intro _ w t t' h hs
    rw [toks_len, toks_var] at hs
    obtain ⟨t1, k1, hs, hf⟩ := hs.step hcl h.suf
    obtain ⟨t2, k2, hs, hf⟩ := hs.step hcl hf
    obtain ⟨t3, k3, hs, hf⟩ := hs.step hcl hf
    obtain ⟨t4, k4, hs, hf⟩ := hs.step hcl hf
    cases hs
    have HW : Hid (Way pb sb cap txt t w w) := ⟨h, grown_refl _ _, h.at_lt⟩
    have HH : Hid (t.head? = some 108) := k1.head (by decide)
    have HK1 := Lib.hid k1
    have HK2 := Lib.hid k2
    have HK3 := Lib.hid k3
    have HK4 := Lib.hid k4
    have HN := Lib.hid h1
    clear h k1 k2 k3 k4 h1 hf
    go_enter Tryd.func31, Tryd.ntmps31
    go_wp2_with fail
    refine (no_step ⟨#[40]⟩ HW.out.ps (by rw [HH.out]; decide) (by decide) (by decide)).mono ?_
    rintro e w2 ⟨rfl, hp, hg⟩
    have HW2 := Lib.hid (HW.out.go hp hg)
    clear hp hg
    go_wp2_with fail
    refine (noint_step HW2.out.ps HH.out (by decide)).mono ?_
    rintro e w3 ⟨rfl, hp, hg⟩
    have HW3 := Lib.hid (HW2.out.go hp hg)
    clear hp hg
    go_wp2_with fail
    refine (cvar_step HW3.out.ps HK1.out (word_L (by decide))).mono ?_
    rintro e w4 ⟨b, rfl, hb, ho, hp, hg⟩
    have x0 : w4.cell? ⟨b, 0, none⟩ = some (.string ⟨#[108, 101, 110]⟩) := cells_of_heap ho 0
    have HW4 := Lib.hid (HW3.out.go hp hg)
    clear hb ho hp hg
    go_wp2_with fail
    refine (expect_step ⟨#[40]⟩ HW4.out.ps HK2.out (by decide) (by decide)).mono ?_
    rintro e w5 ⟨rfl, hp, hg⟩
    have HW5 := Lib.hid (HW4.out.go hp hg)
    clear hp hg x0
    go_wp2_with fail
    refine (var_step HW5.out.ps HK3.out (name_L HN.out)).mono ?_
    rintro e w6 ⟨b2, rfl, hb, ho, hp, hg⟩
    have HT6 := Lib.hid (HW5.out.tree (VarOut.tree hb ho))
    have HW6 := Lib.hid (HW5.out.go hp hg)
    clear hb ho hp hg
    go_wp2_with fail
    refine (expect_step ⟨#[41]⟩ HW6.out.ps HK4.out (by decide) (by decide)).mono ?_
    rintro e w7 ⟨rfl, hp, hg⟩
    have HT7 := Lib.hid (HW6.out.keep hg HT6.out)
    have HW7 := Lib.hid (HW6.out.go hp hg)
    clear hp hg
    go_wp2_with fail
    go_ret
    have hA := World.grownBy_alloc w7 (.cells #[.iface 56 (ptr b2)] 91) (some pb)
    exact ⟨_, _, rfl, .len _ _ w7.heap.size HW7.out.g.size (new_obj w7 _ _) (HW7.out.keep hA HT7.out), HW7.out.ps.alloc _, grown_trans HW7.out.g hA⟩
  | ite nm a b h1 ha hb ih1 ih2 =>
    intro _ w t t' h hs
    rw [toks_if, toks_var] at hs
    obtain ⟨t1, k1, hs, hf⟩ := hs.step hcl h.suf
    obtain ⟨t2, k2, hs, hf⟩ := Spell.step hcl hf hs
    obtain ⟨t3, k3, hs, hf⟩ := Spell.step hcl hf hs
    obtain ⟨t4, s4, hs⟩ := hs.parts
    have HI1 : Hid (∀ w, PS pb sb cap txt t3 w → Calls Tryd.prog 31 #[.pointer (some ⟨pb, 0, none⟩)] w (TreeOut pb sb cap txt a t4 w)) := fun w hp => ih1 rfl w t3 t4 hp s4
    have HSp := Lib.hid hs
    have HW : Hid (Way pb sb cap txt t w w) := ⟨h, grown_refl _ _, h.at_lt⟩
    have HK1 := Lib.hid k1
    have HK2 := Lib.hid k2
    have HK3 := Lib.hid k3
    have HN := Lib.hid h1
    have ih3 := ih2 rfl
    have HI2 := Lib.hid ih3
    have HCL := Lib.hid hcl
    clear h k1 k2 k3 h1 hf ih1 ih2 ih3 hs s4 hcl ha hb
    go_enter Tryd.func31, Tryd.ntmps31
    go_wp2_with fail
    refine (sign_step ⟨#[40]⟩ HW.out.ps HK1.out (by decide) (by decide)).mono ?_
    rintro e w2 ⟨rfl, hp, hg⟩
    have HW2 := Lib.hid (HW.out.go hp hg)
    clear hp hg
    go_wp2_with fail
    refine (var_step HW2.out.ps HK2.out (name_L HN.out)).mono ?_
    rintro e w3 ⟨b2, rfl, hb, ho, hp, hg⟩
    have HT3 := Lib.hid (HW2.out.tree (VarOut.tree hb ho))
    have HW3 := Lib.hid (HW2.out.go hp hg)
    clear hb ho hp hg
    go_wp2_with fail
    refine (expect_step ⟨#[63]⟩ HW3.out.ps HK3.out (by decide) (by decide)).mono ?_
    rintro e w4 ⟨rfl, hp, hg⟩
    have HT4 := Lib.hid (HW3.out.keep hg HT3.out)
    have HW4 := Lib.hid (HW3.out.go hp hg)
    clear hp hg HT3
    go_wp2_with fail
    refine (HI1.out _ HW4.out.ps).mono ?_
    rintro e w5 ⟨ya, na, rfl, hT, hp, hg⟩
    obtain ⟨t5, k5, hs, hf⟩ := Spell.step HCL.out hp.suf HSp.out
    obtain ⟨t6, s6, hs⟩ := hs.parts
    obtain ⟨t7, k7, hs, hf'⟩ := Spell.step HCL.out (s6.rest_suf hf) hs
    cases hs
    have HT5 := Lib.hid (HW4.out.keep hg HT4.out)
    have HA5 := Lib.hid (HW4.out.tree hT)
    have HW5 := Lib.hid (HW4.out.go hp hg)
    have HK5 := Lib.hid k5
    have HK7 := Lib.hid k7
    have HS6 := Lib.hid s6
    clear hp hg HT4 hT hf hf' k5 k7 s6
    go_wp2_with fail
    refine (expect_step ⟨#[58]⟩ HW5.out.ps HK5.out (by decide) (by decide)).mono ?_
    rintro e w6 ⟨rfl, hp, hg⟩
    have HT6 := Lib.hid (HW5.out.keep hg HT5.out)
    have HA6 := Lib.hid (HW5.out.keep hg HA5.out)
    have HW6 := Lib.hid (HW5.out.go hp hg)
    clear hp hg HT5 HA5
    go_wp2_with fail
    refine (HI2.out _ _ _ HW6.out.ps HS6.out).mono ?_
    rintro e w7 ⟨yb, nb, rfl, hT, hp, hg⟩
    have HT7 := Lib.hid (HW6.out.keep hg HT6.out)
    have HA7 := Lib.hid (HW6.out.keep hg HA6.out)
    have HB7 := Lib.hid (HW6.out.tree hT)
    have HW7 := Lib.hid (HW6.out.go hp hg)
    clear hp hg HT6 HA6 hT
    go_wp2_with fail
    refine (expect_step ⟨#[41]⟩ HW7.out.ps HK7.out (by decide) (by decide)).mono ?_
    rintro e w8 ⟨rfl, hp, hg⟩
    have HT8 := Lib.hid (HW7.out.keep hg HT7.out)
    have HA8 := Lib.hid (HW7.out.keep hg HA7.out)
    have HB8 := Lib.hid (HW7.out.keep hg HB7.out)
    have HW8 := Lib.hid (HW7.out.go hp hg)
    clear hp hg HT7 HA7 HB7
    go_wp2_with fail
    go_ret
    have hA := World.grownBy_alloc w8 (.cells #[.iface 56 (ptr b2), .iface ya (ptr na), .iface yb (ptr nb)] 99) (some pb)
    exact ⟨_, _, rfl, .ite _ _ _ _ _ _ w8.heap.size HW8.out.g.size (new_obj w8 _ _) (HW8.out.keep hA HT8.out) (HW8.out.keep hA HA8.out) (HW8.out.keep hA HB8.out), HW8.out.ps.alloc _, grown_trans HW8.out.g hA⟩
end
end Go.Proofs.YtkcpfgnfhbbhhaaDoor.po
