/-
  The law laws.FnLinesAscend returns true at every text and every two numbers: of two places the later one has a greater line, or the same line and a greater column, by as much as lies between. Conditions: none.
-/
import Derived.Test.YtmenhnbaabijiaaResolve
import Derived.WalkKit
import Derived.ProofKit
import Derived.OpenShut
import Derived.ShutString
import Derived.ChangeOld
import Derived.Below
namespace Go.Proofs.Ytmenhnbaabijiaa.fnLinesAscend
open Go.ChangeShapes Go.WideShapes Go.ChangeAt Go.RowKit
open Go.ChangeMaps (open_string shut_string)
set_option linter.unusedVariables false      -- a walk need not use every 'w<i>' (that an integer argument fits its kind)

theorem own : ownKnob Try.prog.godebug = none := by kernel_rfl

open mem lines

theorem feeds_same (l : List UInt8) {a b : Nat} (h : feeds l a = feeds l b) : startOf l a = startOf l b := by simp only [startOf, h]
theorem feeds_all (l : List UInt8) : 0 < feeds (l ++ [10]) (l.length + 1) := by
  unfold feeds
  rw [List.take_of_length_le (by simp)]
  simp
theorem add_list (s : ByteArray) : (s ++ (⟨#[10]⟩ : ByteArray)).data.toList = s.data.toList ++ [10] := by simp

set_option maxHeartbeats 4000000 in
set_option maxRecDepth 100000 in
/-- The walk where the law says something. -/
theorem walk_in (s : ByteArray) (a b : Nat) (hs : s.size ≤ 16384) (hab : a ≤ b) (hb : b ≤ s.size) (w : World) :
    Calls Try.prog 5 #[.string s, .int .i64 (a : Int), .int .i64 (b : Int)] w fun e w' => e = .returned (.bool true) ∧ Below w.heap.size w w' := by
  have h1 : (s.size : Int) ≤ 16384 := by omega
  have h2 : (a : Int) ≤ (b : Int) := by omega
  have h3 : (b : Int) ≤ (s.size : Int) := by omega
  go_enter Try.func5, Try.ntmps5
  go_wp2_with fail
  refine (impl_resolve_any s a _ (by omega) (by omega)).mono ?_
  rintro e w1 ⟨rfl, b1⟩
  have B1 := Lib.hid b1
  clear b1
  go_wp2_with fail
  refine (impl_resolve_any s b _ (by omega) (by omega)).mono ?_
  rintro e w2 ⟨rfl, b2⟩
  have B2 := Lib.hid b2
  clear b2
  go_wp2_with fail
  have M := Lib.hid (fun k => feeds_mono s.data.toList (a := a) (b := k))
  have S := Lib.hid (fun k => feeds_succ s.data.toList k)
  have Z := Lib.hid (fun k => feeds_le s.data.toList k)
  have SZ := Lib.hid (size_list s)
  go_loop [11, 12] (fun f i => ∃ k : Nat, a ≤ k ∧ k ≤ b ∧ i = .int .i64 k ∧ f = .int .i64 ((feeds s.data.toList k : Nat) - (feeds s.data.toList a : Nat))) (fun _ i => b - (intOf i).toNat)
  case atStart => exact ⟨a, Nat.le_refl _, hab, rfl, by simp⟩
  case round =>
    obtain ⟨k, hak, hkb, rfl, rfl⟩ := hrel
    have m1 := M.out k hak
    have z1 := Z.out k
    have sz := SZ.out
    by_cases hlt : k < b
    · have hks : k < s.size := by omega
      have S1 := Lib.hid (S.out k (by omega))
      go_wp2
      · have e : ((s[k].toNat : Int) == 10) = true := by assumption
        have hc : s.data.toList[k]'(by omega) = 10 := UInt8.toNat_inj.1 (by have := beq_iff_eq.1 e; show s[k].toNat = 10; omega)
        have e1 := S1.out
        rw [if_pos hc] at e1
        go_round
        case rel => exact ⟨k + 1, by omega, by omega, by go_num, by rw [e1]; congr 1; omega⟩
        case measure => simp [intOf]; omega
      · have e : ((s[k].toNat : Int) == 10) = false := by assumption
        have hc : ¬ s.data.toList[k]'(by omega) = 10 := fun h => by
          have h1 : s[k] = 10 := h
          rw [h1] at e
          simp at e
        have e1 := S1.out
        rw [if_neg hc] at e1
        go_round
        case rel => exact ⟨k + 1, by omega, by omega, by go_num, by rw [e1]; simp⟩
        case measure => simp [intOf]; omega
    · have hkb' : k = b := by omega
      subst hkb'
      have hsz : (s ++ (⟨#[10]⟩ : ByteArray)).size = s.size + 1 := by simp; rfl
      have hR := impl_resolve_any (s ++ (⟨#[10]⟩ : ByteArray)) (s.size + 1) w2 (by omega) (by omega)
      have e : (((s.size + 1 : Nat)) : Int) = (s.size : Int) + 1 := by omega
      rw [e] at hR
      have HR := Lib.hid hR
      have F := Lib.hid (feeds_all s.data.toList)
      have FS := Lib.hid (fun h => feeds_same s.data.toList (a := a) (b := k) h)
      clear hR e hsz
      go_wp2_with fail
      refine HR.out.mono ?_
      rintro e w3 ⟨rfl, b3⟩
      have B3 := Lib.hid b3
      clear b3
      have f0 : (0 : Int) < ((feeds (s ++ (⟨#[10]⟩ : ByteArray)).data.toList (s.size + 1) : Nat) : Int) := by
        have := F.out
        rw [add_list, ← SZ.out]
        omega
      generalize feeds (s ++ (⟨#[10]⟩ : ByteArray)).data.toList (s.size + 1) = q at f0 ⊢
      generalize startOf (s ++ (⟨#[10]⟩ : ByteArray)).data.toList (s.size + 1) = q' at ⊢
      have f1 : 0 < q := by omega
      have s1 := startOf_le s.data.toList a (by omega)
      have s2 := startOf_le s.data.toList k (by omega)
      clear f0
      have d1 : ((feeds s.data.toList k : Int) == (feeds s.data.toList a : Int) + ((feeds s.data.toList k : Int) - (feeds s.data.toList a : Int))) = true := by simp; omega
      have hb : Below w.heap.size w w3 := by
        have b1 := B1.out
        have b2 := b1.trans (B2.out.mono b1.size)
        exact b2.trans (B3.out.mono b2.size)
      have HB := Lib.hid hb
      clear hb
      by_cases hf : feeds s.data.toList a < feeds s.data.toList k
      · have d2 : (0 : Int) < (feeds s.data.toList k : Int) - (feeds s.data.toList a : Int) := by omega
        go_wp2
        go_ret
        exact ⟨rfl, HB.out⟩
      · have d2 : ¬ (0 : Int) < (feeds s.data.toList k : Int) - (feeds s.data.toList a : Int) := by omega
        have e := FS.out (by omega)
        have d3 : (((k : Int) - (startOf s.data.toList k : Int)) == (a : Int) - (startOf s.data.toList a : Int) + (k : Int) - (a : Int)) = true := by simp; omega
        clear e
        go_wp2
        go_ret
        exact ⟨rfl, HB.out⟩

set_option maxHeartbeats 2000000 in
/-- The walk: where the law says nothing, and where it says something. -/
theorem walk (a0 : ByteArray) (a1 : Int) (a2 : Int) (w0 : a0.size ≤ maxLen) (w1 : (Lit.int .i64 a1).wf = true) (w2 : (Lit.int .i64 a2).wf = true) (w : World) :
    Calls Try.prog 5 #[.string a0, .int .i64 a1, .int .i64 a2] w fun e w' => e = .returned (.bool true) ∧ Below w.heap.size w w' := by
  clear w1 w2
  unfold maxLen at w0
  by_cases h0 : (2147483647 : Int) < (a0.size : Int)
  · go_enter Try.func5, Try.ntmps5
    go_wp2
    go_ret
    exact ⟨rfl, Below.refl _ _⟩
  by_cases h1 : (16384 : Int) < (a0.size : Int)
  · go_enter Try.func5, Try.ntmps5
    go_wp2
    go_ret
    exact ⟨rfl, Below.refl _ _⟩
  by_cases h2 : a1 < 0
  · go_enter Try.func5, Try.ntmps5
    go_wp2
    go_ret
    exact ⟨rfl, Below.refl _ _⟩
  by_cases h3 : a2 < a1
  · go_enter Try.func5, Try.ntmps5
    go_wp2
    go_ret
    exact ⟨rfl, Below.refl _ _⟩
  by_cases h4 : (a0.size : Int) < a2
  · go_enter Try.func5, Try.ntmps5
    go_wp2
    go_ret
    exact ⟨rfl, Below.refl _ _⟩
  obtain ⟨a, rfl⟩ := Int.eq_ofNat_of_zero_le (show 0 ≤ a1 by omega)
  obtain ⟨b, rfl⟩ := Int.eq_ofNat_of_zero_le (show 0 ≤ a2 by omega)
  exact walk_in a0 a b (by omega) (by omega) (by omega) w

set_option maxRecDepth 100000 in
theorem lifted (os : Os) (started : os.Started) (H : Type) (enc : TypeId × Value → H) :
    ReturnsInHanded {} Try.checked os 5 .any (Rows.fnLinesAscendSpec.pre6 enc Try.prog Try.f5 Rows.fnLinesAscendRow.domain false) (Rows.fnLinesAscendSpec.post enc Try.prog Try.f5 false true false false) := by
  refine returnsInHanded_of_change (C := Try.checked) own started (by kernel_rfl) Try.func5
    (ChangeSpec.witness6 (enc := enc) (C := Try.checked) false ⟨#[], #[.string ByteArray.empty, .int .i64 0, .int .i64 0], []⟩ 8 (by kernel_rfl) (by kernel_rfl) (by kernel_rfl) (by kernel_rfl)) ?_
  intro W base args ds gs before hval0 hW hcnd _
  have hval : ∀ (j : Nat) t v, Try.f5.params[j]? = some t → args[j]? = some v → Value.okWide Try.prog W .any base t v := hval0
  have hW' := hW
  obtain ⟨p, q, hA0, hV, rfl, hfz, hnd⟩ := hW
  have hA : DataW.TrodAll enc Try.prog W 0 (fun _ => true) true Try.f5.params.toList args.toList ds p := hA0
  rw [Try.params5] at hA hval
  obtain ⟨v0, vs0, d0, ds0, p0, q0, hargs, rfl, rfl, h0, r0⟩ := trodAll_cons hA
  obtain ⟨v1, vs1, d1, ds1, p1, q1, rfl, rfl, rfl, h1, r1⟩ := trodAll_cons r0
  obtain ⟨v2, vs2, d2, ds2, p2, q2, rfl, rfl, rfl, h2, r2⟩ := trodAll_cons r1
  obtain ⟨rfl, rfl, rfl⟩ := trodAll_nil r2
  obtain rfl : args = #[v0, v1, v2] := by cases args; simp_all
  obtain ⟨rfl, rfl⟩ := trodVars_none hV
  obtain ⟨a0, rfl, rfl, rfl, w0⟩ := open_string Try.underlying9 (hval 0 9 v0 rfl rfl) h0
  obtain ⟨a1, rfl, rfl, rfl, w1⟩ := open_int Try.underlying3 (hval 1 3 v1 rfl rfl) h1
  obtain ⟨a2, rfl, rfl, rfl, w2⟩ := open_int Try.underlying3 (hval 2 3 v2 rfl rfl) h2
  clear hA0 hval0
  simp only [List.append_nil] at hW'
  refine (walk a0 a1 a2 w0 w1 w2 W).mono fun e W' ⟨he, hg⟩ => ?_
  subst he
  exact ⟨_, rfl, _, _, _, [], _, [], hW', trodAll_mk1 (shut_bool Try.underlying4 _), (trodAll_cons_mk (shut_string Try.underlying9 w0) (trodAll_cons_mk (shut_int Try.underlying3 w1) (trodAll_cons_mk (shut_int Try.underlying3 w2) trodAll_mk0))), rfl, hg.frame _, fun h => by cases h⟩

theorem over : Rows.fnLinesAscendRow.holds Try.pinned (OpenSpec.ofChange Rows.fnLinesAscendSpec) :=
  OpenClaim.holds_of_wide 5 Try.f5 rfl rfl rfl rfl rfl rfl rfl ⟨rfl, rfl, rfl, rfl, rfl⟩ rfl rfl rfl rfl rfl (by kernel_rfl) Try.func5 (by kernel_rfl)
    (of_decide_eq_true (by kernel_rfl)) (by unfold Func.isWrapper; first | (rw [if_pos (by decide +kernel)]; kernel_rfl) | (rw [if_neg (by decide +kernel)]; exact ⟨rfl, rfl⟩))
    (fun os started H enc _ => lifted os started H enc)

/-- ████ THE STATEMENT ████ -/
theorem proved : Rows.FnLinesAscendSaid :=
  over
#print axioms proved
end Go.Proofs.Ytmenhnbaabijiaa.fnLinesAscend
