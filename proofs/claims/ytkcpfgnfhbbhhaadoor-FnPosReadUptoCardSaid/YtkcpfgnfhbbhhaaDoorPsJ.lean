/-
  The parser of positions: whole expressions (parsePosChoice). Conditions: in the statement.
-/
import Derived.Test.YtkcpfgnfhbbhhaaDoorPsP
set_option linter.unusedVariables false
set_option linter.unusedSimpArgs false
namespace Go.Proofs.YtkcpfgnfhbbhhaaDoor.po
open Go.RowKit
section
variable {pb sb cap : Nat} {txt t t1 t' : Bs} {w w' : World}
theorem bar_head (hcl : Clean txt) {rs : List PT} (hs : Spell (toksMore tBar rs) t []) (hf : t <:+ txt) : t.head? ≠ some 91 ∧ t.head? ≠ some 46 ∧ t.head? ≠ some 43 := by
  cases rs with
  | nil =>
    rw [toksMore] at hs
    cases hs
    exact ⟨by decide, by decide, by decide⟩
  | cons y r =>
    rw [toksMore] at hs
    obtain ⟨t1, k1, _, _⟩ := hs.step hcl hf
    rw [k1.head (by decide)]
    exact ⟨by decide, by decide, by decide⟩
theorem posInfo : (Tryd.prog.info? 40).map (fun i => (i.zero, i.size, i.bytes)) = some (some .nilIface, 1, 16) := by kernel_rfl
/-- The loop over the places of a choice. -/
structure PosLoop (pb sb cap : Nat) (txt : Bs) (w : World) (l : List PT) (v : Value) (W : World) (dn rs : List PT) (vs : List Value) (t1 : Bs) : Prop where
  all : l = dn ++ rs
  pos : 0 < dn.length
  kids : Kids w.heap.size 40 W v dn vs
  sp : Spell (toksMore tBar rs) t1 []
  way : Way2 pb sb cap txt t1 w W
set_option maxHeartbeats 4000000 in
set_option maxRecDepth 100000 in
theorem choice_any (hcl : Clean txt) {l : List PT} (h0 : 1 < l.length) (hsz : (PT.mk kChoice [] 0 l).size ≤ 500) (h1 : ∀ x, x ∈ l → S sP x) (h2 : ∀ x, x ∈ l → x.kind ≠ kChoice) (h : PS pb sb cap txt t w) (hs : Spell (toks (.mk kChoice [] 0 l)) t []) : Calls Tryd.prog 20 #[.pointer (some ⟨pb, 0, none⟩)] w (TreeOut pb sb cap txt (.mk kChoice [] 0 l) [] w) := by
  have hsx : ∀ x, x ∈ l → x.size ≤ 500 := fun x hx => by
    rw [PT.size_eq] at hsz
    have : x.size ≤ PT.sizes l := by
      clear hsz h0 h1 h2 hs
      induction l with
      | nil => cases hx
      | cons y r ih =>
        rw [PT.sizes_cons]
        rcases List.mem_cons.1 hx with rfl | hx
        · omega
        · have := ih hx
          omega
    omega
  have hlen : l.length ≤ 500 := by rw [PT.size_eq] at hsz; have := len_sizes l; omega
  obtain ⟨x, y, r, rfl⟩ : ∃ x y r, l = x :: y :: r := by
    match l, h0 with
    | [], h => simp at h
    | [_], h => simp at h
    | x :: y :: r, _ => exact ⟨x, y, r, rfl⟩
  rw [toks_choice, toksSep, toksMore] at hs
  obtain ⟨t1, s1, hs⟩ := hs.parts
  have hf1 := s1.rest_suf h.suf
  obtain ⟨t2, k2, hs, hf2⟩ := Spell.step hcl hf1 hs
  obtain ⟨t3, s3, hs⟩ := hs.parts
  have hf3 := s3.rest_suf hf2
  have hh1 : t1.head? = some 124 := k2.head (by decide)
  have hh3 := bar_head hcl hs hf3
  have HI : Hid (∀ w, PS pb sb cap txt t w → Calls Tryd.prog 27 #[.pointer (some ⟨pb, 0, none⟩)] w (TreeOut pb sb cap txt x t1 w)) := fun w hp => pexpr_any hcl (h1 x (by simp)) (h2 x (by simp)) (hsx x (by simp)) hp s1 (by rw [hh1]; decide) (by rw [hh1]; decide) (by rw [hh1]; decide)
  have HI3 : Hid (∀ w, PS pb sb cap txt t2 w → Calls Tryd.prog 27 #[.pointer (some ⟨pb, 0, none⟩)] w (TreeOut pb sb cap txt y t3 w)) := fun w hp => pexpr_any hcl (h1 y (by simp)) (h2 y (by simp)) (hsx y (by simp)) hp s3 hh3.1 hh3.2.1 hh3.2.2
  have HSp := Lib.hid hs
  have HW : Hid (Way2 pb sb cap txt t w w) := .start h
  have HK2 := Lib.hid k2
  have HCL := Lib.hid hcl
  have H1 := Lib.hid h1
  have H2 := Lib.hid h2
  have HSX := Lib.hid hsx
  have HLEN := Lib.hid hlen
  obtain ⟨i0, hi0, hz0, hz1, hz2⟩ := info_parts posInfo
  clear h hs s1 k2 s3 hcl hf1 hf2 hf3 hh1 hh3 h1 h2 hsx hlen h0 hsz
  go_enter Tryd.func20, Tryd.ntmps20
  go_wp2_with fail
  refine (HI.out _ HW.out.ps).mono ?_
  rintro e w2 ⟨yx, nx, rfl, hT, hp, hg⟩
  have HT2 := Lib.hid (HW.out.tree hT)
  have HW2 := Lib.hid (HW.out.go2 hp hg)
  clear hp hg hT
  go_wp2_with fail
  refine (sign_step ⟨#[124, 124]⟩ HW2.out.ps HK2.out (by decide) (by decide)).mono ?_
  rintro e w3 ⟨rfl, hp, hg⟩
  have HT3 := Lib.hid (HW2.out.keep hg HT2.out)
  have HW3 := Lib.hid (HW2.out.go2 hp hg)
  clear hp hg
  go_wp2_with fail
  refine (HI3.out _ HW3.out.ps).mono ?_
  rintro e w4 ⟨yy, ny, rfl, hT, hp, hg⟩
  have HT4 := Lib.hid (HW3.out.keep hg HT3.out)
  have HU4 := Lib.hid (HW3.out.tree hT)
  have HW4 := Lib.hid (HW3.out.go2 hp hg)
  clear hp hg hT
  go_wp2_with fail
  have HL : Hid (PosLoop pb sb cap txt w (x :: y :: r) (.slice (some ⟨w4.heap.size, 0, none⟩) 2 2) (w4.alloc (.cells #[.iface yx (ptr nx), .iface yy (ptr ny)] 40)) [x, y] r [.iface yx (ptr nx), .iface yy (ptr ny)] t3) := ⟨rfl, by simp, .two HW4.out.g.size HT4.out HU4.out, HSp.out, HW4.out.alloc _⟩
  go_loopw [4] (fun v wr => ∃ dn rs vs t1, Hid (PosLoop pb sb cap txt w (x :: y :: r) v wr dn rs vs t1)) (fun _ wr => txt.length - offIn wr pb)
  case atStart => exact ⟨_, _, _, _, HL.out⟩
  case round =>
    obtain ⟨dn, rs, vs, t4, HN⟩ := hrel
    obtain ⟨g, c, rfl, hbg, hgl, hvc⟩ := HN.out.kids.form HN.out.pos
    clear hbg hgl hvc
    cases rs with
    | nil =>
      have hs := HN.out.sp
      rw [toksMore] at hs
      cases hs
      go_wp2_with fail
      refine (no_step ⟨#[124, 124]⟩ HN.out.way.ps (by decide) (by decide) (by decide)).mono ?_
      rintro e w5 ⟨rfl, hp, hg⟩
      have HKi6 := Lib.hid (HN.out.kids.keep hg HN.out.way.lt)
      have HW6 := Lib.hid (HN.out.way.go2 hp hg)
      clear hp hg
      go_wp2_with fail
      go_ret
      have hA := World.grownBy_alloc w5 (.cells #[.slice (some ⟨g, 0, none⟩) dn.length c] 69) (some pb)
      have hKi := HKi6.out.keep hA HN.out.way.lt
      obtain ⟨g2, c2, e2, hbg, hgl, hvc⟩ := hKi.form HN.out.pos
      obtain ⟨rfl, rfl⟩ : g = g2 ∧ c = c2 := by simpa using e2
      have hall := HN.out.all
      rw [List.append_nil] at hall
      refine ⟨_, _, rfl, ?_, HW6.out.ps.alloc _, grown_trans HW6.out.g hA⟩
      rw [hall]
      exact .choice dn vs w5.heap.size g c HW6.out.g.size hbg hgl (new_obj w5 _ _) hKi.len hvc (fun i hi h2 => (hKi.tr i hi h2).mono fun b _ hb => hb.1)
    | cons q rs =>
      have hs := HN.out.sp
      rw [toksMore] at hs
      obtain ⟨t5, k5, hs, hf5⟩ := Spell.step HCL.out HN.out.way.ps.suf hs
      obtain ⟨t6, s6, hs⟩ := hs.parts
      have hf6 := s6.rest_suf hf5
      have hh6 := bar_head HCL.out hs hf6
      have hy : q ∈ x :: y :: r := by rw [HN.out.all]; simp
      have HI2 : Hid (∀ w, PS pb sb cap txt t5 w → Calls Tryd.prog 27 #[.pointer (some ⟨pb, 0, none⟩)] w (TreeOut pb sb cap txt q t6 w)) := fun w hp => pexpr_any HCL.out (H1.out q hy) (H2.out q hy) (HSX.out q hy) hp s6 hh6.1 hh6.2.1 hh6.2.2
      have HK5 := Lib.hid k5
      have HS6 := Lib.hid hs
      have HLT : Hid (t6.length < t4.length) := by
        show _ < _
        obtain ⟨u, e1, e2⟩ := k5.u
        have h3 := s6.rest_suf (txt := t5) (List.suffix_refl _)
        have h4 := h3.length_le
        have h5 : t5.length ≤ u.length := by rw [← e2]; exact (List.dropWhile_suffix _).length_le
        rw [e1]
        simp [tBar]
        omega
      have hdl : dn.length ≤ 500 := by have h3 := HLEN.out; rw [HN.out.all] at h3; simp at h3; omega
      clear k5 hf5 hf6 hh6 s6 hs hy
      go_wp2_with fail
      refine (sign_step ⟨#[124, 124]⟩ HN.out.way.ps HK5.out (by decide) (by decide)).mono ?_
      rintro e w5 ⟨rfl, hp, hg⟩
      have HKi5 := Lib.hid (HN.out.kids.keep hg HN.out.way.lt)
      have HW5 := Lib.hid (HN.out.way.go2 hp hg)
      clear hp hg
      go_wp2_with fail
      refine (HI2.out _ HW5.out.ps).mono ?_
      rintro e w6 ⟨yq, nq, rfl, hT, hp, hg⟩
      have HG6 := Lib.hid hg
      have HT6 := Lib.hid hT
      have HKi6 := Lib.hid (HKi5.out.keep hg HN.out.way.lt)
      have HW6 := Lib.hid (HW5.out.go2 hp hg)
      clear hp hg hT
      go_wp2_with (at_builtin; refine wpList_append_one _ rfl _ _ 67 rfl w.heap.size 40 i0 _ 16 Tryd.underlying67 hi0 hz0 hz1 hz2 rfl (.slice (some ⟨g, 0, none⟩) dn.length c) dn.length vs rfl HKi6.out.row (.iface yq (ptr nq)) rfl rfl (by omega) (by unfold maxLen; omega) HW6.out.g.size ?_; intro v' w7 hr hg7 hb7; have HKi7 := Lib.hid (HKi5.out.add HN.out.way.lt HW5.out.g.size HG6.out HT6.out hr hg7 hb7); have HW7 := Lib.hid ((HW6.out.alloc (.cells #[.iface yq (ptr nq)] 40)).row hg7 (fun g' e => (own_lt HKi6.out.row g' e).1)); clear hr hg7 hb7)
      refine ⟨⟨dn ++ [q], rs, vs ++ [.iface yq (ptr nq)], t6, ⟨by rw [HN.out.all, List.append_assoc]; rfl, by simp, HKi7.out, HS6.out, HW7.out⟩⟩, ?_⟩
      rw [HW7.out.ps.off, HN.out.way.ps.off]
      have h3 := HLT.out
      have h4 := HN.out.way.ps.le
      omega
set_option maxHeartbeats 4000000 in
set_option maxRecDepth 100000 in
theorem whole_any (hcl : Clean txt) {T : PT} (hS : S sP T) (hsz : T.size ≤ 500) (h : PS pb sb cap txt t w) (hs : Spell (toks T) t []) : Calls Tryd.prog 20 #[.pointer (some ⟨pb, 0, none⟩)] w (TreeOut pb sb cap txt T [] w) := by
  by_cases hk : T.kind = kChoice
  · generalize hk2 : sP = k at hS
    cases hS with
    | int n hn => exact absurd hk2 (by decide)
    | nodes l h0 h1 h2 => exact absurd hk2 (by decide)
    | index nm b h1 hb => exact absurd hk2 (by decide)
    | last nm h1 => exact absurd hk2 (by decide)
    | len nm h1 => exact absurd hk2 (by decide)
    | ite nm a b h1 ha hb => exact absurd hk2 (by decide)
    | add a b ha hn hb => exact absurd hk (show kAdd ≠ kChoice by decide)
    | var nm w2 h1 h2 => exact absurd hk (show kVar ≠ kChoice by decide)
    | pos k a hk' ha => rcases hk' with rfl | rfl; exact absurd hk (show kPos ≠ kChoice by decide); exact absurd hk (show kEnd ≠ kChoice by decide)
    | choice l h0 h1 h2 => exact choice_any hcl h0 hsz h1 h2 h hs
  · have HI : Hid (∀ w, PS pb sb cap txt t w → Calls Tryd.prog 27 #[.pointer (some ⟨pb, 0, none⟩)] w (TreeOut pb sb cap txt T [] w)) := fun w hp => pexpr_any hcl hS hk hsz hp hs (by decide) (by decide) (by decide)
    have HW : Hid (Way2 pb sb cap txt t w w) := .start h
    clear h hs hS hk hcl hsz
    go_enter Tryd.func20, Tryd.ntmps20
    go_wp2_with fail
    refine (HI.out _ HW.out.ps).mono ?_
    rintro e w3 ⟨yx, nx, rfl, hT, hp, hg⟩
    have HT3 := Lib.hid (HW.out.tree hT)
    have HW3 := Lib.hid (HW.out.go2 hp hg)
    clear hp hg hT
    go_wp2_with fail
    refine (no_step ⟨#[124, 124]⟩ HW3.out.ps (by decide) (by decide) (by decide)).mono ?_
    rintro e w2 ⟨rfl, hp, hg⟩
    have HT4 := Lib.hid (HW3.out.keep hg HT3.out)
    have HW4 := Lib.hid (HW3.out.go2 hp hg)
    clear hp hg
    go_wp2_with fail
    go_ret
    exact ⟨_, _, rfl, HT4.out, HW4.out.ps, HW4.out.g⟩
end
end Go.Proofs.YtkcpfgnfhbbhhaaDoor.po
