/-
  'Rows.FnPosReadUptoCardSaid': the law laws.FnPosRead returns true at every input whose reading is of bulk at most the given bound, and its arguments read behind the call as they did; the card. Conditions: none beyond the given statement's own.
-/
import Derived.Test.YtkcpfgnfhbbhhaaDoorPoW
set_option linter.unusedVariables false
set_option linter.unusedSimpArgs false
namespace Go.Proofs.YtkcpfgnfhbbhhaaDoor.fnPosRead
open Go.ChangeShapes Go.WideShapes Go.ChangeAt Go.RowKit
open po

theorem laidOut : laidOutB Tryd.prog = true := by kernel_rfl
theorem rec24 : Tryd.prog.readableRec 24 = true := by kernel_rfl
theorem rec25 : Tryd.prog.readableRec 25 = true := by kernel_rfl
theorem row24 : 24 < Tryd.prog.types.size := of_decide_eq_true (by kernel_rfl)
theorem row25 : 25 < Tryd.prog.types.size := of_decide_eq_true (by kernel_rfl)
theorem wf_u8 {n : Int} (h : (Lit.int .u8 n).wf = true) : 0 ≤ n ∧ n ≤ 255 := by simpa [Lit.wf, IntKind.min, IntKind.max, IntKind.signed, IntKind.bits] using h
set_option maxRecDepth 100000 in
/-- A slice of bytes, as a walk wants it. -/
theorem gaps_open {H : Type} {enc : TypeId × Value → H} {w : World} {base : Nat} {v : Value} {d : DataW H} {p : List MemPlace} (hv : Value.okWide Tryd.prog w .any base 25 v) (h : DataW.Trod enc Tryd.prog w 0 (fun _ => true) true 25 v d p) :
    ∃ pg lg cg, v = .slice pg lg cg ∧ GapsAt w pg lg ∧ lg ≤ Rows.uptoBulk d := by
  obtain ⟨a, len, cap, rfl⟩ := okWide_slice Tryd.underlying25 hv
  obtain ⟨fuel, h⟩ := h
  rcases open_ints Tryd.underlying25 Tryd.underlying5 cells5 h with ⟨h1, h2⟩ | ⟨ad, len', cap', zs, h1, h2, h3, h4, h5, h6, h7, h8⟩
  · have h1' : (Value.slice a len cap) = .slice none 0 0 := by simpa [Value.cells] using h1
    cases h1'
    exact ⟨none, 0, 0, rfl, fun i hi => absurd hi (Nat.not_lt_zero i), Nat.zero_le _⟩
  · have h1' : (Value.slice a len cap) = .slice (some ad) len' cap' := by simpa [Value.cells] using h1
    cases h1'
    have hz : len ≤ zs.length := by
      rw [h5]
      simp only [if_true]
      exact h3
    refine ⟨_, _, _, rfl, fun i hi => ?_, ?_⟩
    · obtain ⟨b, o, rfl, hc0⟩ := ints_at h7 (by omega)
      have hc := hc0 i (by omega)
      have hw := h8 (zs.getD i 0) (by
        rw [List.getD_eq_getElem?_getD, List.getElem?_eq_getElem (by omega)]
        exact List.getElem_mem _)
      have hr : 0 ≤ zs.getD i 0 ∧ zs.getD i 0 ≤ 255 := wf_u8 hw
      refine ⟨b, o, rfl, lt_of_cell hc, (zs.getD i 0).toNat, by omega, ?_⟩
      rw [Int.toNat_of_nonneg hr.1]
      exact hc
    · have e : d = .slice (lits .u8 (zs.take len)) (lits .u8 (zs.drop len)) := (Prod.mk.inj h6).1
      rw [e, Rows.uptoBulk]
      have key : ∀ l : List Int, l.length ≤ Rows.uptoBulkAll (lits (H := H) .u8 l) := by
        intro l
        induction l with
        | nil => exact Nat.zero_le _
        | cons x r ih =>
          have e : Rows.uptoBulkAll (lits (H := H) .u8 (x :: r)) = 1 + Rows.uptoBulkAll (lits (H := H) .u8 r) := by
            simp only [lits, List.map_cons, Rows.uptoBulkAll, Rows.uptoBulk]
          rw [e, List.length_cons]
          omega
      have := key (zs.take len)
      rw [List.length_take] at this
      omega
set_option maxRecDepth 100000 in
/-- WHAT THE WALK GIVES. -/
theorem contract (H : Type) (enc : TypeId × Value → H) (W : World) (base : Nat) (args : Array Value) (ds gs : List (DataW H)) (before : List MemPlace)
    (hval : ∀ (j : Nat) t v, Tryd.f3.params[j]? = some t → args[j]? = some v → Value.okWide Tryd.prog W .any base t v)
    (hW : DataW.Whole enc Tryd.prog Tryd.f3.params.toList Rows.fnPosReadSpec.vars false W args.toList ds gs before) (hk : Rows.uptoSmall H (ds ++ gs) = true) (hL : laidMetH Tryd.prog laidAll W) :
    Calls Tryd.prog 3 args W fun e W' => ∃ v, e = .returned v ∧ Rows.fnPosReadSpec.post enc Tryd.prog Tryd.f3 false true false false W args v W' := by
  have hW' := hW
  obtain ⟨p, q, hA0, hV, rfl, hfz, hnd⟩ := hW
  have hA : DataW.TrodAll enc Tryd.prog W 0 (fun _ => true) true Tryd.f3.params.toList args.toList ds p := hA0
  rw [Tryd.params3] at hA hval
  obtain ⟨v0, v1, d0, d1, p0, p1, rfl, rfl, rfl, h0, h1⟩ := trodAll_two hA
  obtain ⟨rfl, rfl⟩ := trodVars_none hV
  have hbulk : Rows.uptoBulk d0 + Rows.uptoBulk d1 ≤ 1048576 := by
    have h := of_decide_eq_true hk
    simp only [List.append_nil, Rows.uptoBulkAll] at h
    omega
  obtain ⟨cs, rfl, hsz⟩ := okWide_struct Tryd.underlying24 (hval 0 24 v0 rfl rfl)
  obtain ⟨pg, lg, cg, rfl, hg, hlg⟩ := gaps_open (hval 1 25 v1 rfl rfl) h1
  obtain ⟨fuel, h0f⟩ := id h0
  obtain ⟨T, hT, hB⟩ := open_PT fuel _ _ h0f
  have hlen : (Value.agg cs).cells.toList = cs.toList := rfl
  rw [hlen] at hT
  rw [cells24] at hsz
  obtain ⟨a0, a1, a2, a3, rfl⟩ : ∃ a0 a1 a2 a3, cs = #[a0, a1, a2, a3] := by
    obtain ⟨l⟩ := cs
    match l, hsz with
    | [a, b, c, d], _ => exact ⟨a, b, c, d, rfl⟩
  clear hA0 hA hval h0f
  simp only [List.append_nil] at hW'
  refine (law_any hT (Nat.le_trans hB (by show Rows.uptoBulk d0 ≤ _; omega)) hg (by omega) (table hL)).mono fun e W' ⟨he, hb⟩ => ?_
  subst he
  have hlt := hW'.lt
  have s0 : ∀ x ∈ p0, x.block < W.heap.size := fun x hx => hlt x (by simp [hx])
  have s1 : ∀ x ∈ p1, x.block < W.heap.size := fun x hx => hlt x (by simp [hx])
  exact ⟨_, rfl, _, _, _, [], _, [], hW', trodAll_mk1 (shut_bool Tryd.underlying4 _), trodAll_mk2 (Below.trod laidOut rec24 row24 h0 hb s0) (Below.trod laidOut rec25 row25 h1 hb s1), rfl, hb.frame _, fun h => by cases h⟩
set_option maxRecDepth 100000 in
theorem lifted (os : Os) (started : os.Started) (H : Type) (enc : TypeId × Value → H) (F : Stop.Interp) :
    ReturnsInHanded {} Tryd.checked os 3 .any ((Rows.OpenSpec.upto Rows.fnPosReadSpec).preRow enc Tryd.prog Tryd.f3 Rows.fnPosReadUptoRow.domain false Rows.fnPosReadUptoRow.laid) (((Rows.OpenSpec.upto Rows.fnPosReadSpec).at F).post enc Tryd.prog Tryd.f3 false true false false) := by
  refine returnsInHanded_of_row (C := Tryd.checked) (s := Rows.OpenSpec.upto Rows.fnPosReadSpec) own started (by kernel_rfl) Tryd.func3 (witness os H enc) ?_
  intro W base args ds gs before hval hW _ hcond _ hL _ _
  exact contract H enc W base args ds gs before hval hW (hcond _ rfl) hL
theorem saidUpto : Rows.FnPosReadUptoSaid :=
  OpenClaim.holds_of_cond 3 Tryd.f3 rfl rfl rfl rfl rfl rfl rfl ⟨rfl, rfl, rfl, rfl, rfl⟩ rfl rfl rfl rfl rfl (by kernel_rfl) Tryd.func3 (by kernel_rfl)
    (of_decide_eq_true (by kernel_rfl)) (by unfold Func.isWrapper; first | (rw [if_pos (by decide +kernel)]; kernel_rfl) | (rw [if_neg (by decide +kernel)]; exact ⟨rfl, rfl⟩))
    (fun os started H enc _ F => by rw [OpenClaim.pre_eq_preRow]; exact lifted os started H enc F)
theorem plain (f : FuncId) (fn : Func) (hf : Tryd.pinned.checked.prog.funcNamed "pub-dabber/laws.FnPosRead" = some f) (hfn : Tryd.pinned.checked.prog.funcs[f]? = some fn) :
    true = Tryd.pinned.checked.prog.looks [] ∧ ∀ (j : Nat) t, fn.params[j]? = some t → Tryd.pinned.checked.prog.wantsStandIn t = false := by
  obtain rfl : f = 3 := Option.some.inj ((show Tryd.prog.funcNamed "pub-dabber/laws.FnPosRead" = some 3 by kernel_rfl).symm.trans hf) |>.symm
  obtain rfl : fn = Tryd.f3 := (Option.some.inj (Tryd.func3.symm.trans hfn)).symm
  refine ⟨by kernel_rfl, fun j t ht => ?_⟩
  rw [Tryd.params3] at ht
  have hm : t ∈ [24, 25] := by simpa using Array.mem_of_getElem? ht
  have hall : ([24, 25].all fun u => !Tryd.prog.wantsStandIn u) = true := by kernel_rfl
  exact (show Tryd.prog.wantsStandIn t = false by simpa using List.all_eq_true.1 hall t hm)
/-- ████ THE STATEMENT ████ -/
theorem proved : Rows.FnPosReadUptoCardSaid :=
  Claim7.holds_tied_plain_at .later [] _ _ _ _ saidUpto (fun _ h => by cases h) (by kernel_rfl) (fun _ h => by cases h) fnPosReadUpto_row_tie rfl ⟨rfl, rfl⟩ (by kernel_rfl) rfl plain (by kernel_rfl)
#print axioms proved
end Go.Proofs.YtkcpfgnfhbbhhaaDoor.fnPosRead
