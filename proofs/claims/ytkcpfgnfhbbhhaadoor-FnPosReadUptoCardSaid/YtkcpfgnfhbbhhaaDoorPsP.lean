/-
  The parser of positions: places and sums (parsePosAtom, parsePosExpr). Conditions: in the statements.
-/
import Derived.Test.YtkcpfgnfhbbhhaaDoorPsX
set_option linter.unusedVariables false
set_option linter.unusedSimpArgs false
namespace Go.Proofs.YtkcpfgnfhbbhhaaDoor.po
open Go.RowKit
theorem as_var (v : Value) (w : World) : (Instr.typeAssert (.iface 56 v) 61 56 true).run Tryd.prog w = .ok (.tuple #[v, .bool true]) w := by kernel_rfl
/-- From A on, the tokens ts lead to T. -/
inductive Rest : PT → List Bs → PT → Prop where
  | done (A : PT) : Rest A [] A
  | more (A i : PT) (ts : List Bs) (T : PT) : S sI i → Rest (.mk kAdd [] 0 [A, i]) ts T → Rest A (tPlus :: (toks i ++ ts)) T
theorem Rest.snoc {A T : PT} {ts : List Bs} (h : Rest A ts T) (i : PT) (hi : S sI i) : Rest A (ts ++ tPlus :: toks i) (.mk kAdd [] 0 [T, i]) := by
  induction h with
  | done A => 
    have := Rest.more A i [] _ hi (.done _)
    simpa using this
  | more A j ts T hj hr ih =>
    have := Rest.more A j _ _ hj ih
    simpa [List.append_assoc] using this
theorem chain_of {k : Bs} {T : PT} (h : S k T) : k = sP → T.kind ≠ kChoice → ∃ A ts, S sP A ∧ A.kind ≠ kAdd ∧ A.kind ≠ kChoice ∧ toks T = toks A ++ ts ∧ Rest A ts T ∧ A.size ≤ T.size := by
  induction h with
  | int n hn => exact fun e => absurd e (by decide)
  | nodes l h0 h1 h2 ih => exact fun e => absurd e (by decide)
  | index nm b h1 hb ih => exact fun e => absurd e (by decide)
  | last nm h1 => exact fun e => absurd e (by decide)
  | len nm h1 => exact fun e => absurd e (by decide)
  | ite nm a b h1 ha hb ih1 ih2 => exact fun e => absurd e (by decide)
  | choice l h0 h1 h2 ih => exact fun _ e => absurd rfl e
  | var nm w h1 h2 => exact fun e _ => ⟨_, [], .var nm sP h1 (by decide), (show kVar ≠ kAdd by decide), (show kVar ≠ kChoice by decide), by simp, .done _, Nat.le_refl _⟩
  | pos k a hk ha ih => exact fun e _ => ⟨_, [], .pos k a hk ha, (by rcases hk with rfl | rfl; exact (show kPos ≠ kAdd by decide); exact (show kEnd ≠ kAdd by decide)), (by rcases hk with rfl | rfl; exact (show kPos ≠ kChoice by decide); exact (show kEnd ≠ kChoice by decide)), by simp, .done _, Nat.le_refl _⟩
  | add a b ha hn hb ih1 ih2 =>
    intro e _
    obtain ⟨A, ts, h1, h2, h3, h4, h5, h6⟩ := ih1 rfl hn
    refine ⟨A, ts ++ tPlus :: toks b, h1, h2, h3, by rw [toks_add, h4, List.append_assoc], h5.snoc b hb, ?_⟩
    rw [PT.size_eq, PT.sizes_cons]
    omega
section
variable {pb sb cap : Nat} {txt t t1 t' : Bs} {w w' : World}
set_option maxHeartbeats 4000000 in
set_option maxRecDepth 100000 in
theorem patom_any (hcl : Clean txt) {T : PT} (hS : S sP T) (hka : T.kind ≠ kAdd) (hkc : T.kind ≠ kChoice) (hsz : T.size ≤ 500) (h : PS pb sb cap txt t w) (hs : Spell (toks T) t t') (hf1 : t'.head? ≠ some 91) (hf2 : t'.head? ≠ some 46) : Calls Tryd.prog 30 #[.pointer (some ⟨pb, 0, none⟩)] w (TreeOut pb sb cap txt T t' w) := by
  generalize hk2 : sP = k at hS
  cases hS with
  | int n hn => exact absurd hk2 (by decide)
  | nodes l h0 h1 h2 => exact absurd hk2 (by decide)
  | index nm b h1 hb => exact absurd hk2 (by decide)
  | last nm h1 => exact absurd hk2 (by decide)
  | len nm h1 => exact absurd hk2 (by decide)
  | ite nm a b h1 ha hb => exact absurd hk2 (by decide)
  | choice l h0 h1 h2 => exact absurd rfl hkc
  | add a b ha hn hb => exact absurd rfl hka
  | var nm w2 h1 h2 =>
    have HI : Hid (∀ w, PS pb sb cap txt t w → Calls Tryd.prog 34 #[.pointer (some ⟨pb, 0, none⟩)] w (TreeOut pb sb cap txt (.mk kVar nm 0 []) t' w)) := fun w hp => node_any hcl (.var nm sN h1 (by decide)) hsz hp hs hf1
    have HW : Hid (Way2 pb sb cap txt t w w) := .start h
    have HF := Lib.hid hf2
    clear h hs hf1 hf2 hka hkc hk2 hcl hsz h1 h2
    have has := as_var
    go_enter Tryd.func30, Tryd.ntmps30
    go_wp2_with fail
    refine (HI.out _ HW.out.ps).mono ?_
    rintro e w2 ⟨ya, na, rfl, hT, hp, hg⟩
    obtain ⟨rfl, ho, hb⟩ : ya = 56 ∧ obj w2 na #[.string ⟨nm.toArray⟩] 58 ∧ w.heap.size ≤ na := by
      cases hT with
      | var nm b hb ho => exact ⟨rfl, ho, hb⟩
    have HT2 : Hid (Tree (From w) w2 (.mk kVar nm 0 []) (.iface 56 (ptr na))) := .var nm na hb ho
    have HW2 := Lib.hid (HW.out.go2 hp hg)
    clear hp hg hT ho hb
    go_wp2_with fail
    refine (no_step ⟨#[46]⟩ HW2.out.ps HF.out (by decide) (by decide)).mono ?_
    rintro e w3 ⟨rfl, hp, hg⟩
    have HT3 := Lib.hid (HW2.out.keep hg HT2.out)
    have HW3 := Lib.hid (HW2.out.go2 hp hg)
    clear hp hg
    go_wp2_with fail
    go_ret
    exact ⟨_, _, rfl, HT3.out, HW3.out.ps, HW3.out.g⟩
  | pos k a hk ha =>
    rw [toks_pos hk] at hs
    obtain ⟨t1, s1, hs⟩ := hs.parts
    have hf3 := s1.rest_suf h.suf
    obtain ⟨t2, k2, hs, hf4⟩ := Spell.step hcl hf3 hs
    obtain ⟨t3, k3, hs, hf5⟩ := Spell.step hcl hf4 hs
    cases hs
    have HI : Hid (∀ w, PS pb sb cap txt t w → Calls Tryd.prog 34 #[.pointer (some ⟨pb, 0, none⟩)] w (TreeOut pb sb cap txt a t1 w)) := fun w hp => node_any hcl ha (by rw [PT.size_eq, PT.sizes_cons] at hsz; omega) hp s1 (by rw [k2.head (by decide)]; decide)
    have HW : Hid (Way2 pb sb cap txt t w w) := .start h
    have HK2 := Lib.hid k2
    have HK3 := Lib.hid k3
    clear h s1 hf1 hf2 hka hkc hk2 hcl hsz ha hf3 hf4 hf5 k2 k3
    rcases hk with rfl | rfl
    · go_enter Tryd.func30, Tryd.ntmps30
      go_wp2_with fail
      refine (HI.out _ HW.out.ps).mono ?_
      rintro e w2 ⟨ya, na, rfl, hT, hp, hg⟩
      have HT2 := Lib.hid (HW.out.tree hT)
      have HW2 := Lib.hid (HW.out.go2 hp hg)
      clear hp hg hT
      go_wp2_with fail
      refine (sign_step ⟨#[46]⟩ HW2.out.ps HK2.out (by decide) (by decide)).mono ?_
      rintro e w3 ⟨rfl, hp, hg⟩
      have HT3 := Lib.hid (HW2.out.keep hg HT2.out)
      have HW3 := Lib.hid (HW2.out.go2 hp hg)
      clear hp hg
      go_wp2_with fail
      refine (var_step HW3.out.ps HK3.out (word_L (by decide))).mono ?_
      rintro e w4 ⟨b, rfl, hb, ho, hp, hg⟩
      have x0 : w4.cell? ⟨b, 0, none⟩ = some (.string ⟨#[112, 111, 115]⟩) := cells_of_heap ho 0
      have HT4 := Lib.hid (HW3.out.keep hg HT3.out)
      have HW4 := Lib.hid (HW3.out.go2 hp hg)
      clear hp hg hb ho
      go_wp2_with fail
      go_ret
      have hA := World.grownBy_alloc w4 (.cells #[.iface ya (ptr na)] 63) (some pb)
      exact ⟨_, _, rfl, .pos _ _ w4.heap.size HW4.out.g.size (new_obj w4 _ _) (HW4.out.keep hA HT4.out), HW4.out.ps.alloc _, grown_trans HW4.out.g hA⟩
    · go_enter Tryd.func30, Tryd.ntmps30
      go_wp2_with fail
      refine (HI.out _ HW.out.ps).mono ?_
      rintro e w2 ⟨ya, na, rfl, hT, hp, hg⟩
      have HT2 := Lib.hid (HW.out.tree hT)
      have HW2 := Lib.hid (HW.out.go2 hp hg)
      clear hp hg hT
      go_wp2_with fail
      refine (sign_step ⟨#[46]⟩ HW2.out.ps HK2.out (by decide) (by decide)).mono ?_
      rintro e w3 ⟨rfl, hp, hg⟩
      have HT3 := Lib.hid (HW2.out.keep hg HT2.out)
      have HW3 := Lib.hid (HW2.out.go2 hp hg)
      clear hp hg
      go_wp2_with fail
      refine (var_step HW3.out.ps HK3.out (word_L (by decide))).mono ?_
      rintro e w4 ⟨b, rfl, hb, ho, hp, hg⟩
      have x0 : w4.cell? ⟨b, 0, none⟩ = some (.string ⟨#[101, 110, 100]⟩) := cells_of_heap ho 0
      have HT4 := Lib.hid (HW3.out.keep hg HT3.out)
      have HW4 := Lib.hid (HW3.out.go2 hp hg)
      clear hp hg hb ho
      go_wp2_with fail
      go_ret
      have hA := World.grownBy_alloc w4 (.cells #[.iface ya (ptr na)] 65) (some pb)
      exact ⟨_, _, rfl, .fin _ _ w4.heap.size HW4.out.g.size (new_obj w4 _ _) (HW4.out.keep hA HT4.out), HW4.out.ps.alloc _, grown_trans HW4.out.g hA⟩
/-- The loop over the summands. -/
structure SumLoop (pb sb cap : Nat) (txt t' : Bs) (w : World) (T : PT) (ty : TypeId) (b : Nat) (W : World) (A : PT) (ts : List Bs) (t1 : Bs) : Prop where
  tree : Tree (From w) W A (.iface ty (ptr b))
  rest : Rest A ts T
  sp : Spell ts t1 t'
  way : Way2 pb sb cap txt t1 w W
set_option maxHeartbeats 4000000 in
set_option maxRecDepth 100000 in
theorem pexpr_any (hcl : Clean txt) {T : PT} (hS : S sP T) (hkc : T.kind ≠ kChoice) (hsz : T.size ≤ 500) (h : PS pb sb cap txt t w) (hs : Spell (toks T) t t') (hf1 : t'.head? ≠ some 91) (hf2 : t'.head? ≠ some 46) (hf3 : t'.head? ≠ some 43) : Calls Tryd.prog 27 #[.pointer (some ⟨pb, 0, none⟩)] w (TreeOut pb sb cap txt T t' w) := by
  obtain ⟨A, ts, hA, ha1, ha2, htk, hR, hle⟩ := chain_of hS rfl hkc
  rw [htk] at hs
  obtain ⟨t1, s1, hs2⟩ := hs.parts
  clear hs
  have hf4 := s1.rest_suf h.suf
  have hfo : t1.head? ≠ some 91 ∧ t1.head? ≠ some 46 := by
    cases hR with
    | done A =>
      cases hs2
      exact ⟨hf1, hf2⟩
    | more A i ts T hi hr =>
      obtain ⟨t9, k9, _, _⟩ := Spell.step hcl hf4 hs2
      rw [k9.head (by decide)]
      exact ⟨by decide, by decide⟩
  have HI : Hid (∀ w, PS pb sb cap txt t w → Calls Tryd.prog 30 #[.pointer (some ⟨pb, 0, none⟩)] w (TreeOut pb sb cap txt A t1 w)) := fun w hp => patom_any hcl hA ha1 ha2 (Nat.le_trans hle hsz) hp s1 hfo.1 hfo.2
  have HW : Hid (Way2 pb sb cap txt t w w) := .start h
  have HSp := Lib.hid hs2
  have HR := Lib.hid hR
  have HF := Lib.hid hf3
  have HCL := Lib.hid hcl
  clear h hs2 s1 hf1 hf2 hf3 hf4 hfo hA ha1 ha2 htk hR hle hS hkc hsz hcl
  go_enter Tryd.func27, Tryd.ntmps27
  go_wp2_with fail
  refine (HI.out _ HW.out.ps).mono ?_
  rintro e w2 ⟨ya, na, rfl, hT, hp, hg⟩
  have HL : Hid (SumLoop pb sb cap txt t' w T ya na w2 A ts t1) := ⟨HW.out.tree hT, HR.out, HSp.out, HW.out.go2 hp hg⟩
  clear hp hg hT
  go_wp2_with fail
  go_loopw [3] (fun v wr => ∃ ty b A ts t1, v = .iface ty (.pointer (some ⟨b, 0, none⟩)) ∧ Hid (SumLoop pb sb cap txt t' w T ty b wr A ts t1)) (fun _ wr => txt.length - offIn wr pb)
  case atStart => exact ⟨_, _, _, _, _, rfl, HL.out⟩
  case round =>
    obtain ⟨ty, b, A1, ts1, t4, rfl, HN⟩ := hrel
    have hR := HN.out.rest
    have hs := HN.out.sp
    cases hR with
    | done A =>
      cases hs
      go_wp2_with fail
      refine (no_step ⟨#[43]⟩ HN.out.way.ps HF.out (by decide) (by decide)).mono ?_
      rintro e w5 ⟨rfl, hp, hg⟩
      have HT5 := Lib.hid (HN.out.way.keep hg HN.out.tree)
      have HW5 := Lib.hid (HN.out.way.go2 hp hg)
      clear hp hg
      go_wp2_with fail
      go_ret
      exact ⟨_, _, rfl, HT5.out, HW5.out.ps, HW5.out.g⟩
    | more A i ts T hi hr =>
      obtain ⟨t5, k5, hs, hf5⟩ := Spell.step HCL.out HN.out.way.ps.suf hs
      obtain ⟨t6, s6, hs⟩ := hs.parts
      have HI2 : Hid (∀ w, PS pb sb cap txt t5 w → Calls Tryd.prog 31 #[.pointer (some ⟨pb, 0, none⟩)] w (TreeOut pb sb cap txt i t6 w)) := fun w hp => int_any HCL.out hi rfl w t5 t6 hp s6
      have HK5 := Lib.hid k5
      have HS6 := Lib.hid hs
      have HR6 := Lib.hid hr
      have HLT : Hid (t6.length < t4.length) := by
        show _ < _
        obtain ⟨u, e1, e2⟩ := k5.u
        have h3 := s6.rest_suf (txt := t5) (List.suffix_refl _)
        have h4 := h3.length_le
        have h5 : t5.length ≤ u.length := by rw [← e2]; exact (List.dropWhile_suffix _).length_le
        rw [e1]
        simp [tPlus]
        omega
      clear k5 hf5 s6 hs hr hi
      go_wp2_with fail
      refine (sign_step ⟨#[43]⟩ HN.out.way.ps HK5.out (by decide) (by decide)).mono ?_
      rintro e w5 ⟨rfl, hp, hg⟩
      have HT5 := Lib.hid (HN.out.way.keep hg HN.out.tree)
      have HW5 := Lib.hid (HN.out.way.go2 hp hg)
      clear hp hg
      go_wp2_with fail
      refine (HI2.out _ HW5.out.ps).mono ?_
      rintro e w6 ⟨yi, ni, rfl, hT, hp, hg⟩
      have HT6 := Lib.hid (HW5.out.keep hg HT5.out)
      have HC6 := Lib.hid (HW5.out.tree hT)
      have HW6 := Lib.hid (HW5.out.go2 hp hg)
      clear hp hg hT
      go_wp2_with fail
      have hA := World.grownBy_alloc w6 (.cells #[.iface ty (ptr b), .iface yi (ptr ni)] 78) (some pb)
      refine ⟨⟨74, w6.heap.size, _, ts, t6, rfl, ⟨.add _ _ _ _ w6.heap.size HW6.out.g.size (new_obj w6 _ _) (HW6.out.keep hA HT6.out) (HW6.out.keep hA HC6.out), HR6.out, HS6.out, HW6.out.alloc _⟩⟩, ?_⟩
      rw [(HW6.out.alloc _).ps.off, HN.out.way.ps.off]
      have h3 := HLT.out
      have h4 := HN.out.way.ps.le
      omega
end
end Go.Proofs.YtkcpfgnfhbbhhaaDoor.po
