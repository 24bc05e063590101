/-
  The law laws.FnFolds returns true at every two texts and every number: texts are equal but for the case of letters exactly if their capitals are. Conditions: none.
-/
import Derived.Test.YtmenhnbaabijiaaTexts
import Derived.WalkKit
import Derived.ProofKit
import Derived.OpenShut
import Derived.ShutString
import Derived.ChangeOld
import Derived.Below
namespace Go.Proofs.Ytmenhnbaabijiaa.fnFolds
open Go.ChangeShapes Go.WideShapes Go.ChangeAt Go.RowKit
open Go.ChangeMaps (open_string shut_string)
set_option linter.unusedVariables false      -- a walk need not use every 'w<i>' (that an integer argument fits its kind)

theorem own : ownKnob Try.prog.godebug = none := by kernel_rfl

theorem fold_case (s : ByteArray) (r : List UInt8) (h : plain.CaseOf s.data.toList r) : texts.foldB s ⟨r.toArray⟩ = true := by
  simp only [texts.foldB, decide_eq_true_eq]
  exact h.upper.symm

set_option maxHeartbeats 1000000 in
set_option maxRecDepth 100000 in
/-- The walk, over the contracts of the callees. -/
theorem walk (a0 : ByteArray) (a1 : ByteArray) (a2 : Int) (w0 : a0.size ≤ maxLen) (w1 : a1.size ≤ maxLen) (w2 : (Lit.int .u64 a2).wf = true) (w : World) :
    Calls Try.prog 3 #[.string a0, .string a1, .int .u64 a2] w fun e w' => e = .returned (.bool true) ∧ Below w.heap.size w w' := by
  have hb : 0 ≤ a2 ∧ a2 ≤ 18446744073709551615 := by simpa [Lit.wf, IntKind.min, IntKind.max, IntKind.signed, IntKind.bits] using w2
  obtain ⟨hb0, hb1⟩ := hb
  clear w2
  have W0 := Lib.hid w0
  have W1 := Lib.hid w1
  have HB := Lib.hid (And.intro hb0 hb1)
  unfold maxLen at w0 w1
  clear hb0 hb1
  by_cases h0 : (2147483647 : Int) < (a0.size : Int)
  · go_enter Try.func3, Try.ntmps3
    go_wp2
    go_ret
    exact ⟨rfl, Below.refl _ _⟩
  by_cases h1 : (2147483647 : Int) < (a1.size : Int)
  · go_enter Try.func3, Try.ntmps3
    go_wp2
    go_ret
    exact ⟨rfl, Below.refl _ _⟩
  by_cases h2 : (16384 : Int) < (a0.size : Int) + (a1.size : Int)
  · go_enter Try.func3, Try.ntmps3
    go_wp2
    go_ret
    exact ⟨rfl, Below.refl _ _⟩
  by_cases h3 : texts.asciiB a0 = false
  · go_enter Try.func3, Try.ntmps3
    go_wp2_with (go_at_call 6; refine (texts.ascii_any _ _ (by first | exact W0.out | exact W1.out)).mono ?_; rintro e w' ⟨rfl, rfl⟩)
    go_ret
    exact ⟨rfl, Below.refl _ _⟩
  have h3' : texts.asciiB a0 = true := by simpa using h3
  clear h3
  by_cases h4 : texts.asciiB a1 = false
  · go_enter Try.func3, Try.ntmps3
    go_wp2_with (go_at_call 6; refine (texts.ascii_any _ _ (by first | exact W0.out | exact W1.out)).mono ?_; rintro e w' ⟨rfl, rfl⟩)
    go_ret
    exact ⟨rfl, Below.refl _ _⟩
  have h4' : texts.asciiB a1 = true := by simpa using h4
  clear h4
  go_enter Try.func3, Try.ntmps3
  go_wp2_with (go_at_call 6; refine (texts.ascii_any _ _ (by first | exact W0.out | exact W1.out)).mono ?_; rintro e w' ⟨rfl, rfl⟩)
  have hf : texts.foldB a0 a1 = (plain.upper a0.data.toList == plain.upper a1.data.toList) := by
    simp only [texts.foldB]
    rw [Bool.eq_iff_iff]
    simp
  refine (texts.impl_fold_any _ _ _ W0.out).mono ?_
  rintro e w1 ⟨rfl, n, rfl⟩
  go_wp2_with fail
  refine (texts.upper_any _ _ W0.out).mono ?_
  rintro e w2 ⟨rfl, b1⟩
  have B1 := Lib.hid b1
  clear b1
  go_wp2_with fail
  refine (texts.upper_any _ _ W1.out).mono ?_
  rintro e w3 ⟨rfl, b2⟩
  have B2 := Lib.hid b2
  clear b2
  go_wp2_with fail
  refine (texts.turned_any _ _ _ W0.out HB.out.1 HB.out.2).mono ?_
  rintro e w4 ⟨r, rfl, hc, b3⟩
  have B3 := Lib.hid b3
  have F := fold_case _ _ hc
  clear b3 hc
  go_wp2_with fail
  refine (texts.impl_fold_any _ _ _ W0.out).mono ?_
  rintro e w5 ⟨rfl, m, rfl⟩
  go_wp2
  go_ret
  have b1 := B1.out
  have b2 := b1.trans (B2.out.mono b1.size)
  have b3 := b2.trans (B3.out.mono b2.size)
  exact ⟨rfl, ⟨b3.os, b3.tape, b3.output, b3.size, b3.block⟩⟩

set_option maxRecDepth 100000 in
theorem lifted (os : Os) (started : os.Started) (H : Type) (enc : TypeId × Value → H) :
    ReturnsInHanded {} Try.checked os 3 .any (Rows.fnFoldsSpec.pre6 enc Try.prog Try.f3 Rows.fnFoldsRow.domain false) (Rows.fnFoldsSpec.post enc Try.prog Try.f3 false true false false) := by
  refine returnsInHanded_of_change (C := Try.checked) own started (by kernel_rfl) Try.func3
    (ChangeSpec.witness6 (enc := enc) (C := Try.checked) false ⟨#[], #[.string ByteArray.empty, .string ByteArray.empty, .int .u64 0], []⟩ 8 (by kernel_rfl) (by kernel_rfl) (by kernel_rfl) (by kernel_rfl)) ?_
  intro W base args ds gs before hval0 hW hcnd _
  have hval : ∀ (j : Nat) t v, Try.f3.params[j]? = some t → args[j]? = some v → Value.okWide Try.prog W .any base t v := hval0
  have hW' := hW
  obtain ⟨p, q, hA0, hV, rfl, hfz, hnd⟩ := hW
  have hA : DataW.TrodAll enc Try.prog W 0 (fun _ => true) true Try.f3.params.toList args.toList ds p := hA0
  rw [Try.params3] at hA hval
  obtain ⟨v0, vs0, d0, ds0, p0, q0, hargs, rfl, rfl, h0, r0⟩ := trodAll_cons hA
  obtain ⟨v1, vs1, d1, ds1, p1, q1, rfl, rfl, rfl, h1, r1⟩ := trodAll_cons r0
  obtain ⟨v2, vs2, d2, ds2, p2, q2, rfl, rfl, rfl, h2, r2⟩ := trodAll_cons r1
  obtain ⟨rfl, rfl, rfl⟩ := trodAll_nil r2
  obtain rfl : args = #[v0, v1, v2] := by cases args; simp_all
  obtain ⟨rfl, rfl⟩ := trodVars_none hV
  obtain ⟨a0, rfl, rfl, rfl, w0⟩ := open_string Try.underlying9 (hval 0 9 v0 rfl rfl) h0
  obtain ⟨a1, rfl, rfl, rfl, w1⟩ := open_string Try.underlying9 (hval 1 9 v1 rfl rfl) h1
  obtain ⟨a2, rfl, rfl, rfl, w2⟩ := open_int Try.underlying22 (hval 2 22 v2 rfl rfl) h2
  clear hA0 hval0
  simp only [List.append_nil] at hW'
  refine (walk a0 a1 a2 w0 w1 w2 W).mono fun e W' ⟨he, hg⟩ => ?_
  subst he
  exact ⟨_, rfl, _, _, _, [], _, [], hW', trodAll_mk1 (shut_bool Try.underlying4 _), (trodAll_cons_mk (shut_string Try.underlying9 w0) (trodAll_cons_mk (shut_string Try.underlying9 w1) (trodAll_cons_mk (shut_int Try.underlying22 w2) trodAll_mk0))), rfl, hg.frame _, fun h => by cases h⟩

theorem over : Rows.fnFoldsRow.holds Try.pinned (OpenSpec.ofChange Rows.fnFoldsSpec) :=
  OpenClaim.holds_of_wide 3 Try.f3 rfl rfl rfl rfl rfl rfl rfl ⟨rfl, rfl, rfl, rfl, rfl⟩ rfl rfl rfl rfl rfl (by kernel_rfl) Try.func3 (by kernel_rfl)
    (of_decide_eq_true (by kernel_rfl)) (by unfold Func.isWrapper; first | (rw [if_pos (by decide +kernel)]; kernel_rfl) | (rw [if_neg (by decide +kernel)]; exact ⟨rfl, rfl⟩))
    (fun os started H enc _ => lifted os started H enc)

/-- ████ THE STATEMENT ████ -/
theorem proved : Rows.FnFoldsSaid :=
  over
#print axioms proved
end Go.Proofs.Ytmenhnbaabijiaa.fnFolds
