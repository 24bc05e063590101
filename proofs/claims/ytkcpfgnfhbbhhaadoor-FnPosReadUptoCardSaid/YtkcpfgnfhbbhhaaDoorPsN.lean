/-
  The parser of positions: single nodes (parseNodeAtom). Conditions: in the statement.
-/
import Derived.Test.YtkcpfgnfhbbhhaaDoorPsI
set_option linter.unusedVariables false
set_option linter.unusedSimpArgs false
namespace Go.Proofs.YtkcpfgnfhbbhhaaDoor.po
open Go.RowKit
section
variable {pb sb cap : Nat} {txt t t1 t' : Bs} {w w' : World}
theorem int_head {k : Bs} {T : PT} (h : S k T) (hk : k = sI) : ∃ x ts, toks T = x :: ts ∧ x ≠ [] ∧ x.head? ≠ some 36 := by
  cases h with
  | var nm w h1 h2 => exact absurd hk h2
  | pos k a hk' ha => exact absurd hk (by decide)
  | add a b ha hn hb => exact absurd hk (by decide)
  | choice l h0 h1 h2 => exact absurd hk (by decide)
  | nodes l h0 h1 h2 => exact absurd hk (by decide)
  | index nm b h1 hb => exact absurd hk (by decide)
  | last nm h1 => exact absurd hk (by decide)
  | int n hn =>
    obtain ⟨c, r, h1, h2⟩ := dig_head n
    refine ⟨_, _, toks_int n, by rw [h1]; simp, ?_⟩
    rw [h1]
    intro e
    have e2 : c = 36 := by simpa using e
    subst e2
    revert h2
    decide
  | len nm h1 => exact ⟨_, _, toks_len _, by decide, by decide⟩
  | ite nm a b h1 ha hb => exact ⟨_, _, toks_if _ _ _, by decide, by decide⟩
set_option maxHeartbeats 4000000 in
set_option maxRecDepth 100000 in
theorem atom_any (hcl : Clean txt) {T : PT} (hS : S sN T) (hk : T.kind ≠ kNodes) (h : PS pb sb cap txt t w) (hs : Spell (toks T) t t') (hf : t'.head? ≠ some 91) : Calls Tryd.prog 39 #[.pointer (some ⟨pb, 0, none⟩)] w (TreeOut pb sb cap txt T t' w) := by
  generalize hk2 : sN = k at hS
  cases hS with
  | int n hn => exact absurd hk2 (by decide)
  | pos k a hk' ha => exact absurd hk2 (by decide)
  | add a b ha hn hb => exact absurd hk2 (by decide)
  | choice l h0 h1 h2 => exact absurd hk2 (by decide)
  | nodes l h0 h1 h2 => exact absurd rfl hk
  | len nm h1 => exact absurd hk2 (by decide)
  | ite nm a b h1 ha hb => exact absurd hk2 (by decide)
  | var nm w2 h1 h2 =>
    rw [toks_var] at hs
    obtain ⟨t1, k1, hs, hf1⟩ := hs.step hcl h.suf
    cases hs
    have HW : Hid (Way pb sb cap txt t w w) := ⟨h, grown_refl _ _, h.at_lt⟩
    have HK1 := Lib.hid k1
    have HN := Lib.hid h1
    have HF := Lib.hid hf
    clear h k1 h1 hf hf1 hk hk2 h2
    go_enter Tryd.func39, Tryd.ntmps39
    go_wp2_with fail
    refine (var_step HW.out.ps HK1.out (name_L HN.out)).mono ?_
    rintro e w2 ⟨b, rfl, hb, ho, hp, hg⟩
    have HT2 := Lib.hid (HW.out.tree (VarOut.tree hb ho))
    have HW2 := Lib.hid (HW.out.go hp hg)
    clear hb ho hp hg
    go_wp2_with fail
    refine (no_step ⟨#[91]⟩ HW2.out.ps HF.out (by decide) (by decide)).mono ?_
    rintro e w3 ⟨rfl, hp, hg⟩
    have HT3 := Lib.hid (HW2.out.keep hg HT2.out)
    have HW3 := Lib.hid (HW2.out.go hp hg)
    clear hp hg
    go_wp2_with fail
    go_ret
    exact ⟨_, _, rfl, HT3.out, HW3.out.ps, HW3.out.g⟩
  | last nm h1 =>
    rw [toks_last, toks_var] at hs
    obtain ⟨t1, k1, hs, hf1⟩ := Spell.step hcl h.suf hs
    obtain ⟨t2, k2, hs, hf1⟩ := Spell.step hcl hf1 hs
    obtain ⟨t3, k3, hs, hf1⟩ := Spell.step hcl hf1 hs
    obtain ⟨t4, k4, hs, hf1⟩ := Spell.step hcl hf1 hs
    cases hs
    have HW : Hid (Way pb sb cap txt t w w) := ⟨h, grown_refl _ _, h.at_lt⟩
    have HK1 := Lib.hid k1
    have HK2 := Lib.hid k2
    have HK3 := Lib.hid k3
    have HK4 := Lib.hid k4
    have HN := Lib.hid h1
    clear h k1 k2 k3 k4 h1 hf hf1 hk hk2
    go_enter Tryd.func39, Tryd.ntmps39
    go_wp2_with fail
    refine (var_step HW.out.ps HK1.out (name_L HN.out)).mono ?_
    rintro e w2 ⟨b, rfl, hb, ho, hp, hg⟩
    have HT2 := Lib.hid (HW.out.tree (VarOut.tree hb ho))
    have HW2 := Lib.hid (HW.out.go hp hg)
    clear hb ho hp hg
    go_wp2_with fail
    refine (sign_step ⟨#[91]⟩ HW2.out.ps HK2.out (by decide) (by decide)).mono ?_
    rintro e w3 ⟨rfl, hp, hg⟩
    have HT3 := Lib.hid (HW2.out.keep hg HT2.out)
    have HW3 := Lib.hid (HW2.out.go hp hg)
    clear hp hg
    go_wp2_with fail
    refine (sign_step ⟨#[36]⟩ HW3.out.ps HK3.out (by decide) (by decide)).mono ?_
    rintro e w4 ⟨rfl, hp, hg⟩
    have HT4 := Lib.hid (HW3.out.keep hg HT3.out)
    have HW4 := Lib.hid (HW3.out.go hp hg)
    clear hp hg
    go_wp2_with fail
    refine (expect_step ⟨#[93]⟩ HW4.out.ps HK4.out (by decide) (by decide)).mono ?_
    rintro e w5 ⟨rfl, hp, hg⟩
    have HT5 := Lib.hid (HW4.out.keep hg HT4.out)
    have HW5 := Lib.hid (HW4.out.go hp hg)
    clear hp hg
    go_wp2_with fail
    go_ret
    have hA := World.grownBy_alloc w5 (.cells #[.iface 56 (ptr b)] 86) (some pb)
    exact ⟨_, _, rfl, .last _ _ w5.heap.size HW5.out.g.size (new_obj w5 _ _) (HW5.out.keep hA HT5.out), HW5.out.ps.alloc _, grown_trans HW5.out.g hA⟩
  | index nm c h1 hc =>
    rw [toks_index, toks_var] at hs
    obtain ⟨t1, k1, hs, hf1⟩ := Spell.step hcl h.suf hs
    obtain ⟨t2, k2, hs, hf1⟩ := Spell.step hcl hf1 hs
    obtain ⟨x, ts, hx, hx0, hx1⟩ := int_head hc rfl
    have hh2 : t2.head? ≠ some 36 := by
      have hs' := hs
      rw [hx] at hs'
      obtain ⟨t9, k9, _, _⟩ := Spell.step hcl hf1 hs'
      rw [k9.head hx0]
      exact hx1
    obtain ⟨t3, s3, hs⟩ := hs.parts
    obtain ⟨t4, k4, hs, hf1⟩ := Spell.step hcl (s3.rest_suf hf1) hs
    cases hs
    have HI : Hid (∀ w, PS pb sb cap txt t2 w → Calls Tryd.prog 31 #[.pointer (some ⟨pb, 0, none⟩)] w (TreeOut pb sb cap txt c t3 w)) := fun w hp => int_any hcl hc rfl w t2 t3 hp s3
    have HW : Hid (Way pb sb cap txt t w w) := ⟨h, grown_refl _ _, h.at_lt⟩
    have HK1 := Lib.hid k1
    have HK2 := Lib.hid k2
    have HK4 := Lib.hid k4
    have HH := Lib.hid hh2
    have HN := Lib.hid h1
    clear h k1 k2 k4 h1 hf hf1 hk hk2 hx hx0 hx1 s3 hh2 hc
    go_enter Tryd.func39, Tryd.ntmps39
    go_wp2_with fail
    refine (var_step HW.out.ps HK1.out (name_L HN.out)).mono ?_
    rintro e w2 ⟨b, rfl, hb, ho, hp, hg⟩
    have HT2 := Lib.hid (HW.out.tree (VarOut.tree hb ho))
    have HW2 := Lib.hid (HW.out.go hp hg)
    clear hb ho hp hg
    go_wp2_with fail
    refine (sign_step ⟨#[91]⟩ HW2.out.ps HK2.out (by decide) (by decide)).mono ?_
    rintro e w3 ⟨rfl, hp, hg⟩
    have HT3 := Lib.hid (HW2.out.keep hg HT2.out)
    have HW3 := Lib.hid (HW2.out.go hp hg)
    clear hp hg
    go_wp2_with fail
    refine (no_step ⟨#[36]⟩ HW3.out.ps HH.out (by decide) (by decide)).mono ?_
    rintro e w4 ⟨rfl, hp, hg⟩
    have HT4 := Lib.hid (HW3.out.keep hg HT3.out)
    have HW4 := Lib.hid (HW3.out.go hp hg)
    clear hp hg
    go_wp2_with fail
    refine (HI.out _ HW4.out.ps).mono ?_
    rintro e w5 ⟨yc, nc, rfl, hT, hp, hg⟩
    have HT5 := Lib.hid (HW4.out.keep hg HT4.out)
    have HC5 := Lib.hid (HW4.out.tree hT)
    have HW5 := Lib.hid (HW4.out.go hp hg)
    clear hp hg hT
    go_wp2_with fail
    refine (expect_step ⟨#[93]⟩ HW5.out.ps HK4.out (by decide) (by decide)).mono ?_
    rintro e w6 ⟨rfl, hp, hg⟩
    have HT6 := Lib.hid (HW5.out.keep hg HT5.out)
    have HC6 := Lib.hid (HW5.out.keep hg HC5.out)
    have HW6 := Lib.hid (HW5.out.go hp hg)
    clear hp hg
    go_wp2_with fail
    go_ret
    have hA := World.grownBy_alloc w6 (.cells #[.iface 56 (ptr b), .iface yc (ptr nc)] 83) (some pb)
    exact ⟨_, _, rfl, .index _ _ _ _ w6.heap.size HW6.out.g.size (new_obj w6 _ _) (HW6.out.keep hA HT6.out) (HW6.out.keep hA HC6.out), HW6.out.ps.alloc _, grown_trans HW6.out.g hA⟩
end
end Go.Proofs.YtkcpfgnfhbbhhaaDoor.po
