/-
  The parser of positions: a name that must be there, numbers. Conditions: in the statements.
-/
import Derived.Test.YtkcpfgnfhbbhhaaDoorPsD
import Derived.Lib.AtoiErrMem
set_option linter.unusedVariables false
set_option linter.unusedSimpArgs false
namespace Go.Proofs.YtkcpfgnfhbbhhaaDoor.po
open Go.RowKit
section
variable {pb sb cap : Nat} {txt t t' : Bs} {w w' : World}
/-- A new block of the parser's own: a number. -/
def IntOut (pb sb cap : Nat) (txt : Bs) (n : Int) (t' : Bs) (w : World) (e : Ending) (w' : World) : Prop :=
  ∃ b, e = .returned (.pointer (some ⟨b, 0, none⟩)) ∧ w.heap.size ≤ b ∧ w'.heap[b]? = some (.cells #[.int .i64 n] 94 (0, 0)) ∧ PS pb sb cap txt t' w' ∧ w.grownBy w' (some pb)
theorem bytes_below {w w' : World} {t : ByteArray} (h : w' = Lib.bytesWorld w 5 t) : Below w.heap.size w w' := by
  rw [h]
  exact Lib.bytesWorld_below _ _ _
set_option maxHeartbeats 2000000 in
set_option maxRecDepth 100000 in
theorem cint_yes {c0 : UInt8} {r0 : Bs} {n : Int} (h : PS pb sb cap txt (c0 :: r0) w) (h0 : dB c0 = true) (hn : Lib.atoi ((c0 :: r0).takeWhile dB) = some n) (hl : ((c0 :: r0).takeWhile dB).length ≤ 18) : Calls Tryd.prog 37 #[.pointer (some ⟨pb, 0, none⟩)] w (IntOut pb sb cap txt n (((c0 :: r0).dropWhile dB).dropWhile spB) w) := by
  have HP := Lib.hid h
  have H0 := Lib.hid h0
  have HSuf := Lib.hid h.suf
  have HNE : Hid (txt.length - (c0 :: r0).length < txt.length) := (suf_get h.suf).1
  have HN : Hid (Lib.atoi ((c0 :: r0).takeWhile dB) = some n ∧ ((c0 :: r0).takeWhile dB).length ≤ 18) := ⟨hn, hl⟩
  clear h h0 hn hl
  obtain ⟨o, HO⟩ : ∃ o, Hid (o = txt.length - (c0 :: r0).length) := ⟨_, rfl⟩
  have HY : Hid (∀ W, PS pb sb cap txt (c0 :: r0) W → W.cell? ⟨pb, 1, none⟩ = some (.int .i64 (o : Int))) := fun W hp => (cells_of_heap hp.obj 1).trans (by rw [HO.out]; rfl)
  go_enter Tryd.func37, Tryd.ntmps37
  go_wp2_with (first | (go_at_call 21; refine (eof_cons HP.out).mono ?_; rintro e w2 ⟨rfl, hp, hg⟩; have H2 := Lib.hid hp; have HG2 := Lib.hid hg; clear hp hg) | (go_at_call 25; refine (current_any H2.out).mono ?_; rintro e w3 ⟨rfl, hp, hg⟩; have H3 := Lib.hid hp; have HG3 := Lib.hid (grown_trans HG2.out hg); have y1 := HY.out _ hp; clear hp hg) | (go_at_call 40; refine (digit_u H3.out.head _).mono ?_; rintro e w4 ⟨rfl, rfl⟩; rw [H0.out]))
  obtain ⟨t, ht⟩ : ∃ t, t = c0 :: r0 := ⟨_, rfl⟩
  rw [← ht] at HP HSuf HNE HO HN H2 H3 ⊢
  have HTT := Lib.hid ht
  clear ht H0 y1 HY
  go_loopw [4] (fun _ wr => ∃ t1, Hid (PS pb sb cap txt t1 wr) ∧ Hid (w.grownBy wr (some pb)) ∧ Hid (Scan dB t t1)) (fun _ wr => txt.length - offIn wr pb)
  case atStart => exact ⟨t, H3.out, HG3.out, .refl _ _⟩
  case round =>
    obtain ⟨t1, H1, HG, HSc⟩ := hrel
    cases t1 with
    | nil =>
      generalize htt : ([] : Bs) = t1 at H1 HSc
      have HT := Lib.hid htt
      clear htt
      go_wp2_with (first | (go_at_call 21; refine (eof_nil (HT.out ▸ H1.out)).mono ?_; rintro e w2 ⟨rfl, hp, hg⟩; have H2 : Hid (PS pb sb cap txt t1 w2) := (show [] = t1 from HT.out) ▸ hp; have HG2 := Lib.hid (grown_trans HG.out hg); clear hp hg))
      have hcv := fun m c => cut_at H2.out HSc.out HSuf.out m c
      rw [← HO.out] at hcv
      have x0 := cells_of_heap H2.out.obj 0
      have x1 := cells_of_heap H2.out.obj 1
      have hle1 := H2.out.le
      have hle2 := HSuf.out.length_le
      have hle3 := HSc.out.le
      have hcap := H2.out.cap
      have hlen := H2.out.len
      have hlt := HNE.out
      obtain ⟨o1, ho1⟩ : ∃ o1, o1 = txt.length - t1.length := ⟨_, rfl⟩
      rw [← ho1] at x1 hcv
      have HW1 : Hid (o = txt.length - t.length) := HO.out
      have ho := HO.out
      have hz1 : (o : Int) ≤ (o1 : Int) := by omega
      have hz2 : (o1 : Int) ≤ (cap : Int) := by omega
      have hz3 : (0 : Int) ≤ (o : Int) := by omega
      have hcne : ¬ cap = o := by omega
      have HSP := Lib.hid (HSc.out.done (fun c r e => by rw [← show [] = t1 from HT.out] at e; cases e))
      clear hle1 hle2 hle3 hlen hcap hlt ho ho1
      have HAT : Hid (Lib.atoi (t.take (t.length - t1.length)) = some n ∧ (t.take (t.length - t1.length)).length ≤ 18) := by
        show _ ∧ _
        rw [← HSP.out.1]
        exact HN.out
      obtain ⟨S2, hS2⟩ : ∃ S2 : ByteArray, S2 = ⟨(t.take (t.length - t1.length)).toArray⟩ := ⟨_, rfl⟩
      have HA2 : Hid (Lib.atoi S2.data.toList = some n ∧ S2.size ≤ 18) := by
        rw [hS2]
        exact HAT.out
      simp only [← hS2] at hcv
      clear hS2
      go_wp2_with fail
      go_quiet (fail)
      go_wp2_with (first | (go_at_call 41; refine (Tryd.strconv_Atoi S2 n HA2.out.2 HA2.out.1 _).mono ?_; rintro e w6 ⟨rfl, tb, hw6⟩; have H6 := Lib.hid ((H2.out.drewN _).below (bytes_below hw6)); have HG6 := Lib.hid (grown_trans (grown_drewN HG2.out _) (grown_below (bytes_below hw6) _)); clear hw6) | (go_at_call 19; refine (skip_any H6.out).mono ?_; rintro e w7 ⟨rfl, hp, hg⟩; have H7 := Lib.hid hp; have HG7 := Lib.hid (grown_trans HG6.out hg); clear hp hg))
      go_ret
      refine ⟨w7.heap.size, rfl, HG7.out.size, ?_, ?_, grown_alloc HG7.out _⟩
      · exact heap_alloc_new w7 _
      · rw [← show t = c0 :: r0 from HTT.out, HSP.out.2]
        exact H7.out.alloc _
    | cons c r =>
      cases hd : dB c with
      | true =>
        have HD := Lib.hid hd
        clear hd
        go_wp2_with (first | (go_at_call 21; refine (eof_cons H1.out).mono ?_; rintro e w2 ⟨rfl, hp, hg⟩; have H2 := Lib.hid hp; have HG2 := Lib.hid (grown_trans HG.out hg); clear hp hg) | (go_at_call 25; refine (current_any H2.out).mono ?_; rintro e w3 ⟨rfl, hp, hg⟩; have H3 := Lib.hid hp; have HG3 := Lib.hid (grown_trans HG2.out hg); clear hp hg) | (go_at_call 40; refine (digit_u H3.out.head _).mono ?_; rintro e w4 ⟨rfl, rfl⟩; rw [HD.out]) | (go_at_call 26; refine (next_any H3.out).mono ?_; rintro e w5 ⟨rfl, hp, hg⟩; have H5 := Lib.hid hp; have HG5 := Lib.hid (grown_trans HG3.out hg); clear hp hg))
        refine ⟨⟨r, H5.out, HG5.out, HSc.out.next HD.out⟩, ?_⟩
        rw [H5.out.off, H1.out.off]
        have := H1.out.le
        simp at this ⊢
        omega
      | false =>
        have HD := Lib.hid hd
        clear hd
        go_wp2_with (first | (go_at_call 21; refine (eof_cons H1.out).mono ?_; rintro e w2 ⟨rfl, hp, hg⟩; have H2 := Lib.hid hp; have HG2 := Lib.hid (grown_trans HG.out hg); clear hp hg) | (go_at_call 25; refine (current_any H2.out).mono ?_; rintro e w3 ⟨rfl, hp, hg⟩; have H3 := Lib.hid hp; have HG3 := Lib.hid (grown_trans HG2.out hg); clear hp hg) | (go_at_call 40; refine (digit_u H3.out.head _).mono ?_; rintro e w4 ⟨rfl, rfl⟩; rw [HD.out]))
        have HW2 : Hid (∀ c' r', c :: r = c' :: r' → dB c' = false) := fun c' r' e => by cases e; exact HD.out
        obtain ⟨t1, ht1⟩ : ∃ t1, t1 = c :: r := ⟨_, rfl⟩
        rw [← ht1] at H3 HSc HW2
        clear ht1 H1 HD
        have hcv := fun m c => cut_at H3.out HSc.out HSuf.out m c
        rw [← HO.out] at hcv
        have x0 := cells_of_heap H3.out.obj 0
        have x1 := cells_of_heap H3.out.obj 1
        have hle1 := H3.out.le
        have hle2 := HSuf.out.length_le
        have hle3 := HSc.out.le
        have hcap := H3.out.cap
        have hlen := H3.out.len
        have hlt := HNE.out
        obtain ⟨o1, ho1⟩ : ∃ o1, o1 = txt.length - t1.length := ⟨_, rfl⟩
        rw [← ho1] at x1 hcv
        have HW1 : Hid (o = txt.length - t.length) := HO.out
        have ho := HO.out
        have hz1 : (o : Int) ≤ (o1 : Int) := by omega
        have hz2 : (o1 : Int) ≤ (cap : Int) := by omega
        have hz3 : (0 : Int) ≤ (o : Int) := by omega
        have hcne : ¬ cap = o := by omega
        have HSP := Lib.hid (HSc.out.done HW2.out)
        clear hle1 hle2 hle3 hlen hcap hlt ho ho1
        have HAT : Hid (Lib.atoi (t.take (t.length - t1.length)) = some n ∧ (t.take (t.length - t1.length)).length ≤ 18) := by
          show _ ∧ _
          rw [← HSP.out.1]
          exact HN.out
        obtain ⟨S2, hS2⟩ : ∃ S2 : ByteArray, S2 = ⟨(t.take (t.length - t1.length)).toArray⟩ := ⟨_, rfl⟩
        have HA2 : Hid (Lib.atoi S2.data.toList = some n ∧ S2.size ≤ 18) := by
          rw [hS2]
          exact HAT.out
        simp only [← hS2] at hcv
        clear hS2
        go_wp2_with fail
        go_quiet (fail)
        go_wp2_with (first | (go_at_call 41; refine (Tryd.strconv_Atoi S2 n HA2.out.2 HA2.out.1 _).mono ?_; rintro e w6 ⟨rfl, tb, hw6⟩; have H6 := Lib.hid ((H3.out.drewN _).below (bytes_below hw6)); have HG6 := Lib.hid (grown_trans (grown_drewN HG3.out _) (grown_below (bytes_below hw6) _)); clear hw6) | (go_at_call 19; refine (skip_any H6.out).mono ?_; rintro e w7 ⟨rfl, hp, hg⟩; have H7 := Lib.hid hp; have HG7 := Lib.hid (grown_trans HG6.out hg); clear hp hg))
        go_ret
        refine ⟨w7.heap.size, rfl, HG7.out.size, ?_, ?_, grown_alloc HG7.out _⟩
        · exact heap_alloc_new w7 _
        · rw [← show t = c0 :: r0 from HTT.out, HSP.out.2]
          exact H7.out.alloc _
set_option maxRecDepth 100000 in
theorem cint_no {c : UInt8} {r : Bs} (h : PS pb sb cap txt (c :: r) w) (h0 : dB c = false) : Calls Tryd.prog 37 #[.pointer (some ⟨pb, 0, none⟩)] w (Ps pb sb cap txt (.pointer none) (c :: r) w) := by
  have HP := Lib.hid h
  have H0 := Lib.hid h0
  clear h h0
  go_enter Tryd.func37, Tryd.ntmps37
  go_wp2_with (first | (go_at_call 21; refine (eof_cons HP.out).mono ?_; rintro e w2 ⟨rfl, hp, hg⟩; have H2 := Lib.hid hp; have HG2 := Lib.hid hg; clear hp hg) | (go_at_call 25; refine (current_any H2.out).mono ?_; rintro e w3 ⟨rfl, hp, hg⟩; have H3 := Lib.hid hp; have HG3 := Lib.hid (grown_trans HG2.out hg); clear hp hg) | (go_at_call 40; refine (digit_u H3.out.head _).mono ?_; rintro e w4 ⟨rfl, rfl⟩; rw [H0.out]))
  go_ret
  exact ⟨rfl, H3.out, HG3.out⟩
theorem pvar_any {c0 : UInt8} {r0 : Bs} (h : PS pb sb cap txt (c0 :: r0) w) (h0 : lB c0 = true) : Calls Tryd.prog 35 #[.pointer (some ⟨pb, 0, none⟩)] w (VarOut pb sb cap txt ((c0 :: r0).takeWhile wB) (((c0 :: r0).dropWhile wB).dropWhile spB) w) := by
  have HP := Lib.hid h
  have H0 := Lib.hid h0
  clear h h0
  go_enter Tryd.func35, Tryd.ntmps35
  go_wp2_with (go_at_call 38; refine (cvar_any HP.out H0.out).mono ?_; rintro e w2 ⟨b, rfl, hv⟩; have HV := Lib.hid hv; clear hv)
  go_ret
  exact ⟨b, rfl, HV.out⟩
end
end Go.Proofs.YtkcpfgnfhbbhhaaDoor.po
