/-
  The parser of positions: nodes (parseNodeExpr). Conditions: in the statement.
-/
import Derived.Test.YtkcpfgnfhbbhhaaDoorPsK
import Derived.Test.YtkcpfgnfhbbhhaaDoorPosZ
set_option linter.unusedVariables false
set_option linter.unusedSimpArgs false
namespace Go.Proofs.YtkcpfgnfhbbhhaaDoor.po
open Go.RowKit
section
variable {pb sb cap : Nat} {txt t t1 t' : Bs} {w w' : World}
theorem node_head {k : Bs} {T : PT} (h : S k T) (hk : k = sN) (hn : T.kind ≠ kNodes) : ∃ x ts, toks T = x :: ts ∧ nameB x = true := by
  cases h with
  | int n hn' => exact absurd hk (by decide)
  | pos k a hk' ha => exact absurd hk (by decide)
  | add a b ha hn hb => exact absurd hk (by decide)
  | choice l h0 h1 h2 => exact absurd hk (by decide)
  | nodes l h0 h1 h2 => exact absurd rfl hn
  | len nm h1 => exact absurd hk (by decide)
  | ite nm a b h1 ha hb => exact absurd hk (by decide)
  | var nm w h1 h2 => exact ⟨_, _, toks_var nm, h1⟩
  | index nm b h1 hb => exact ⟨nm, _, by rw [toks_index, toks_var]; rfl, h1⟩
  | last nm h1 => exact ⟨nm, _, by rw [toks_last, toks_var]; rfl, h1⟩
theorem name_head {nm : Bs} (h : nameB nm = true) : nm ≠ [] ∧ nm.head? ≠ some 40 := by
  obtain ⟨_, c, r, rfl, h1, _⟩ := name_L h
  refine ⟨by simp, fun e => ?_⟩
  have e2 : c = 40 := by simpa using e
  subst e2
  revert h1
  decide
theorem more_head (hcl : Clean txt) {rs : List PT} (hs : Spell (toksMore tQQ rs ++ [tRP]) t t') (hf : t <:+ txt) : t.head? ≠ some 91 := by
  cases rs with
  | nil =>
    rw [toksMore, List.nil_append] at hs
    obtain ⟨t1, k1, _, _⟩ := hs.step hcl hf
    rw [k1.head (by decide)]
    decide
  | cons y r =>
    rw [toksMore, List.cons_append] at hs
    obtain ⟨t1, k1, _, _⟩ := hs.step hcl hf
    rw [k1.head (by decide)]
    decide
theorem nodeInfo : (Tryd.prog.info? 61).map (fun i => (i.zero, i.size, i.bytes)) = some (some .nilIface, 1, 16) := by kernel_rfl
/-- The loop over the nodes of a choice. -/
structure NodeLoop (pb sb cap : Nat) (txt t' : Bs) (w : World) (l : List PT) (v : Value) (W : World) (dn rs : List PT) (vs : List Value) (t1 : Bs) : Prop where
  all : l = dn ++ rs
  pos : 0 < dn.length
  kids : Kids w.heap.size 61 W v dn vs
  sp : Spell (toksMore tQQ rs ++ [tRP]) t1 t'
  way : Way2 pb sb cap txt t1 w W
set_option maxHeartbeats 4000000 in
set_option maxRecDepth 100000 in
theorem nodes_any (hcl : Clean txt) {l : List PT} (h0 : 1 < l.length) (hlen : l.length ≤ 500) (h1 : ∀ x, x ∈ l → S sN x) (h2 : ∀ x, x ∈ l → x.kind ≠ kNodes) (h : PS pb sb cap txt t w) (hs : Spell (toks (.mk kNodes [] 0 l)) t t') : Calls Tryd.prog 34 #[.pointer (some ⟨pb, 0, none⟩)] w (TreeOut pb sb cap txt (.mk kNodes [] 0 l) t' w) := by
  obtain ⟨x, r, rfl⟩ : ∃ x r, l = x :: r := by
    cases l with
    | nil => simp at h0
    | cons x r => exact ⟨x, r, rfl⟩
  rw [toks_nodes, toksSep, List.append_assoc] at hs
  obtain ⟨t1, k1, hs, hf1⟩ := Spell.step hcl h.suf hs
  obtain ⟨t2, s2, hs⟩ := hs.parts
  have hf2 := s2.rest_suf hf1
  have HI : Hid (∀ w, PS pb sb cap txt t1 w → Calls Tryd.prog 39 #[.pointer (some ⟨pb, 0, none⟩)] w (TreeOut pb sb cap txt x t2 w)) := fun w hp => atom_any hcl (h1 x (by simp)) (h2 x (by simp)) hp s2 (more_head hcl hs hf2)
  have HSp := Lib.hid hs
  have HW : Hid (Way2 pb sb cap txt t w w) := .start h
  have HK1 := Lib.hid k1
  have HCL := Lib.hid hcl
  have H1 := Lib.hid h1
  have H2 := Lib.hid h2
  have HLEN := Lib.hid hlen
  obtain ⟨i0, hi0, hz0, hz1, hz2⟩ := info_parts nodeInfo
  clear h hs k1 hcl hf1 hf2 s2 h1 h2 hlen h0
  go_enter Tryd.func34, Tryd.ntmps34
  go_wp2_with fail
  refine (sign_step ⟨#[40]⟩ HW.out.ps HK1.out (by decide) (by decide)).mono ?_
  rintro e w2 ⟨rfl, hp, hg⟩
  have HW2 := Lib.hid (HW.out.go2 hp hg)
  clear hp hg
  go_wp2_with fail
  refine (HI.out _ HW2.out.ps).mono ?_
  rintro e w3 ⟨yx, nx, rfl, hT, hp, hg⟩
  have HT3 := Lib.hid (HW2.out.tree hT)
  have HW3 := Lib.hid (HW2.out.go2 hp hg)
  clear hp hg hT
  go_wp2_with fail
  have HL : Hid (NodeLoop pb sb cap txt t' w (x :: r) (.slice (some ⟨w3.heap.size, 0, none⟩) 1 1) (w3.alloc (.cells #[.iface yx (ptr nx)] 61)) [x] r [.iface yx (ptr nx)] t2) := ⟨rfl, by simp, .one HW3.out.g.size HT3.out, HSp.out, HW3.out.alloc _⟩
  go_loopw [3] (fun v wr => ∃ dn rs vs t1, Hid (NodeLoop pb sb cap txt t' w (x :: r) v wr dn rs vs t1)) (fun _ wr => txt.length - offIn wr pb)
  case atStart => exact ⟨_, _, _, _, HL.out⟩
  case round =>
    obtain ⟨dn, rs, vs, t4, HN⟩ := hrel
    obtain ⟨g, c, rfl, hbg, hgl, hvc⟩ := HN.out.kids.form HN.out.pos
    have HG : Hid (w.heap.size ≤ g ∧ g < _ ∧ ∀ i (h : i < vs.length), World.cell? _ ⟨g, i, none⟩ = some vs[i]) := ⟨hbg, hgl, hvc⟩
    clear hbg hgl hvc
    cases rs with
    | nil =>
      have hs := HN.out.sp
      rw [toksMore, List.nil_append] at hs
      obtain ⟨t5, k5, hs, hf5⟩ := Spell.step HCL.out HN.out.way.ps.suf hs
      cases hs
      have HK5 := Lib.hid k5
      clear k5 hf5
      go_wp2_with fail
      refine (no_step ⟨#[63, 63]⟩ HN.out.way.ps (by rw [HK5.out.head (by decide)]; decide) (by decide) (by decide)).mono ?_
      rintro e w5 ⟨rfl, hp, hg⟩
      have HKi5 := Lib.hid (HN.out.kids.keep hg HN.out.way.lt)
      have HW5 := Lib.hid (HN.out.way.go2 hp hg)
      clear hp hg
      go_wp2_with fail
      refine (expect_step ⟨#[41]⟩ HW5.out.ps HK5.out (by decide) (by decide)).mono ?_
      rintro e w6 ⟨rfl, hp, hg⟩
      have HKi6 := Lib.hid (HKi5.out.keep hg HN.out.way.lt)
      have HW6 := Lib.hid (HW5.out.go2 hp hg)
      clear hp hg
      go_wp2_with fail
      go_ret
      have hA := World.grownBy_alloc w6 (.cells #[.slice (some ⟨g, 0, none⟩) dn.length c] 73) (some pb)
      have hKi := HKi6.out.keep hA HN.out.way.lt
      obtain ⟨g2, c2, e2, hbg, hgl, hvc⟩ := hKi.form HN.out.pos
      obtain ⟨rfl, rfl⟩ : g = g2 ∧ c = c2 := by simpa using e2
      have hall := HN.out.all
      rw [List.append_nil] at hall
      refine ⟨_, _, rfl, ?_, HW6.out.ps.alloc _, grown_trans HW6.out.g hA⟩
      rw [hall]
      exact .nodes dn vs w6.heap.size g c HW6.out.g.size hbg hgl (new_obj w6 _ _) hKi.len hvc (fun i hi h2 => (hKi.tr i hi h2).mono fun b _ hb => hb.1)
    | cons y rs =>
      have hs := HN.out.sp
      rw [toksMore, List.cons_append, List.append_assoc] at hs
      obtain ⟨t5, k5, hs, hf5⟩ := Spell.step HCL.out HN.out.way.ps.suf hs
      obtain ⟨t6, s6, hs⟩ := hs.parts
      have hf6 := s6.rest_suf hf5
      have hy : y ∈ x :: r := by rw [HN.out.all]; simp
      have HI2 : Hid (∀ w, PS pb sb cap txt t5 w → Calls Tryd.prog 39 #[.pointer (some ⟨pb, 0, none⟩)] w (TreeOut pb sb cap txt y t6 w)) := fun w hp => atom_any HCL.out (H1.out y hy) (H2.out y hy) hp s6 (more_head HCL.out hs hf6)
      have HK5 := Lib.hid k5
      have HS6 := Lib.hid hs
      have HLT : Hid (t6.length < t4.length) := by
        show _ < _
        obtain ⟨u, e1, e2⟩ := k5.u
        have h3 := s6.rest_suf (txt := t5) (List.suffix_refl _)
        have h4 := h3.length_le
        have h5 : t5.length ≤ u.length := by rw [← e2]; exact (List.dropWhile_suffix _).length_le
        rw [e1]
        simp [tQQ]
        omega
      have hdl : dn.length ≤ 500 := by have h3 := HLEN.out; rw [HN.out.all] at h3; simp at h3; omega
      clear k5 hf5 hf6 s6 hs hy
      go_wp2_with fail
      refine (sign_step ⟨#[63, 63]⟩ HN.out.way.ps HK5.out (by decide) (by decide)).mono ?_
      rintro e w5 ⟨rfl, hp, hg⟩
      have HKi5 := Lib.hid (HN.out.kids.keep hg HN.out.way.lt)
      have HW5 := Lib.hid (HN.out.way.go2 hp hg)
      clear hp hg
      go_wp2_with fail
      refine (HI2.out _ HW5.out.ps).mono ?_
      rintro e w6 ⟨yy, ny, rfl, hT, hp, hg⟩
      have HG6 := Lib.hid hg
      have HT6 := Lib.hid hT
      have HKi6 := Lib.hid (HKi5.out.keep hg HN.out.way.lt)
      have HW6 := Lib.hid (HW5.out.go2 hp hg)
      clear hp hg hT
      go_wp2_with (at_builtin; refine wpList_append_one _ rfl _ _ 71 rfl w.heap.size 61 i0 _ 16 Tryd.underlying71 hi0 hz0 hz1 hz2 rfl (.slice (some ⟨g, 0, none⟩) dn.length c) dn.length vs rfl HKi6.out.row (.iface yy (ptr ny)) rfl rfl (by omega) (by unfold maxLen; omega) HW6.out.g.size ?_; intro v' w7 hr hg7 hb7; have HKi7 := Lib.hid (HKi5.out.add HN.out.way.lt HW5.out.g.size HG6.out HT6.out hr hg7 hb7); have HW7 := Lib.hid ((HW6.out.alloc (.cells #[.iface yy (ptr ny)] 61)).row hg7 (fun g' e => (own_lt HKi6.out.row g' e).1)); clear hr hg7 hb7)
      refine ⟨⟨dn ++ [y], rs, vs ++ [.iface yy (ptr ny)], t6, ⟨by rw [HN.out.all, List.append_assoc]; rfl, by simp, HKi7.out, HS6.out, HW7.out⟩⟩, ?_⟩
      rw [HW7.out.ps.off, HN.out.way.ps.off]
      have h3 := HLT.out
      have h4 := HN.out.way.ps.le
      omega
set_option maxHeartbeats 4000000 in
set_option maxRecDepth 100000 in
theorem node_any (hcl : Clean txt) {T : PT} (hS : S sN T) (hsz : T.size ≤ 500) (h : PS pb sb cap txt t w) (hs : Spell (toks T) t t') (hf : t'.head? ≠ some 91) : Calls Tryd.prog 34 #[.pointer (some ⟨pb, 0, none⟩)] w (TreeOut pb sb cap txt T t' w) := by
  by_cases hk : T.kind = kNodes
  · generalize hk2 : sN = k at hS
    cases hS with
    | int n hn => exact absurd hk2 (by decide)
    | pos k a hk' ha => exact absurd hk2 (by decide)
    | add a b ha hn hb => exact absurd hk2 (by decide)
    | choice l h0 h1 h2 => exact absurd hk2 (by decide)
    | len nm h1 => exact absurd hk2 (by decide)
    | ite nm a b h1 ha hb => exact absurd hk2 (by decide)
    | var nm w2 h1 h2 => exact absurd hk (show kVar ≠ kNodes by decide)
    | last nm h1 => exact absurd hk (show kLast ≠ kNodes by decide)
    | index nm c h1 hc => exact absurd hk (show kIndex ≠ kNodes by decide)
    | nodes l h0 h1 h2 => exact nodes_any hcl h0 (by rw [PT.size_eq] at hsz; have := len_sizes l; omega) h1 h2 h hs
  · obtain ⟨x, ts, hx, hn⟩ := node_head hS rfl hk
    have hh : t.head? ≠ some 40 := by
      have hs' := hs
      rw [hx] at hs'
      obtain ⟨t9, k9, _, _⟩ := Spell.step hcl h.suf hs'
      rw [k9.head (name_head hn).1]
      exact (name_head hn).2
    have HI : Hid (∀ w, PS pb sb cap txt t w → Calls Tryd.prog 39 #[.pointer (some ⟨pb, 0, none⟩)] w (TreeOut pb sb cap txt T t' w)) := fun w hp => atom_any hcl hS hk hp hs hf
    have HW : Hid (Way2 pb sb cap txt t w w) := .start h
    have HH := Lib.hid hh
    clear h hs hf hx hn hh hS hk hcl hsz
    go_enter Tryd.func34, Tryd.ntmps34
    go_wp2_with fail
    refine (no_step ⟨#[40]⟩ HW.out.ps HH.out (by decide) (by decide)).mono ?_
    rintro e w2 ⟨rfl, hp, hg⟩
    have HW2 := Lib.hid (HW.out.go2 hp hg)
    clear hp hg
    go_wp2_with fail
    refine (HI.out _ HW2.out.ps).mono ?_
    rintro e w3 ⟨yx, nx, rfl, hT, hp, hg⟩
    have HT3 := Lib.hid (HW2.out.tree hT)
    have HW3 := Lib.hid (HW2.out.go2 hp hg)
    clear hp hg hT
    go_wp2_with fail
    go_ret
    exact ⟨_, _, rfl, HT3.out, HW3.out.ps, HW3.out.g⟩
end
end Go.Proofs.YtkcpfgnfhbbhhaaDoor.po
