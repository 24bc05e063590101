/-
  The parser of positions: names. Conditions: in the statements.
-/
import Derived.Test.YtkcpfgnfhbbhhaaDoorPsC
set_option linter.unusedVariables false
set_option linter.unusedSimpArgs false
namespace Go.Proofs.YtkcpfgnfhbbhhaaDoor.po
open Go.RowKit

def lB (c : UInt8) : Bool := Lib.isLetterL c.toNat
def dB (c : UInt8) : Bool := Lib.isDigitL (c.toNat : Int)
def wB (c : UInt8) : Bool := lB c || decide (c.toNat = 95) || dB c
section
variable {pb sb cap : Nat} {txt t t' : Bs} {w w' : World}
theorem letter_u {c : UInt8} {W : World} (h : PS pb sb cap txt t W) (hc : c.toNat < 128) : Calls Tryd.prog 42 #[.int .i32 (c.toNat : Int)] W fun e w' => e = .returned (.bool (lB c)) ∧ w' = W :=
  Tryd.unicode_IsLetter c.toNat W (by omega) h.tab
theorem digit_u {c : UInt8} (hc : c.toNat < 128) (W : World) : Calls Tryd.prog 40 #[.int .i32 (c.toNat : Int)] W fun e w' => e = .returned (.bool (dB c)) ∧ w' = W :=
  Tryd.unicode_IsDigit (c.toNat : Int) W (by omega)
/-- How far a scan has come: t1 is still to come, what lies before it is all of f. -/
def Scan (f : UInt8 → Bool) (t t1 : Bs) : Prop := ∃ p, t = p ++ t1 ∧ ∀ c ∈ p, f c = true
theorem Scan.refl (f : UInt8 → Bool) (t : Bs) : Scan f t t := ⟨[], rfl, by simp⟩
theorem Scan.suf {f : UInt8 → Bool} {t t1 : Bs} (h : Scan f t t1) : t1 <:+ t := by
  obtain ⟨p, rfl, _⟩ := h
  exact ⟨p, rfl⟩
theorem Scan.le {f : UInt8 → Bool} {t t1 : Bs} (h : Scan f t t1) : t1.length ≤ t.length := h.suf.length_le
theorem Scan.next {f : UInt8 → Bool} {t r : Bs} {c : UInt8} (h : Scan f t (c :: r)) (hc : f c = true) : Scan f t r := by
  obtain ⟨p, rfl, hp⟩ := h
  refine ⟨p ++ [c], by simp, fun x hx => ?_⟩
  rcases List.mem_append.1 hx with hx | hx
  · exact hp x hx
  · rw [List.mem_singleton.1 hx]
    exact hc
theorem while_all {f : UInt8 → Bool} : ∀ (l : Bs), (∀ c ∈ l, f c = true) → ∀ r : Bs, (l ++ r).takeWhile f = l ++ r.takeWhile f ∧ (l ++ r).dropWhile f = r.dropWhile f
  | [], _, r => ⟨rfl, rfl⟩
  | x :: l, h, r => by
    have ih := while_all l (fun y hy => h y (by simp [hy])) r
    have hx := h x (by simp)
    simp [List.takeWhile_cons, List.dropWhile_cons, hx, ih.1, ih.2]
theorem Scan.done {f : UInt8 → Bool} {t t1 : Bs} (h : Scan f t t1) (hc : ∀ c r, t1 = c :: r → f c = false) : t.takeWhile f = t.take (t.length - t1.length) ∧ t.dropWhile f = t1 := by
  obtain ⟨p, rfl, hp⟩ := h
  have e : t1.takeWhile f = [] ∧ t1.dropWhile f = t1 := by
    cases t1 with
    | nil => exact ⟨rfl, rfl⟩
    | cons c r => simp [hc c r rfl]
  have h1 := while_all p hp t1
  rw [h1.1, h1.2, e.1, e.2]
  rw [List.length_append, show p.length + t1.length - t1.length = p.length by omega, List.take_left' rfl, List.append_nil]
  exact ⟨rfl, rfl⟩
/-- A new block of the parser's own: a name. -/
def VarOut (pb sb cap : Nat) (txt nm t' : Bs) (w : World) (e : Ending) (w' : World) : Prop :=
  ∃ b, e = .returned (.pointer (some ⟨b, 0, none⟩)) ∧ w.heap.size ≤ b ∧ w'.heap[b]? = some (.cells #[.string ⟨nm.toArray⟩] 58 (0, 0)) ∧ PS pb sb cap txt t' w' ∧ w.grownBy w' (some pb)
theorem PS.alloc (h : PS pb sb cap txt t w) (o : Obj) : PS pb sb cap txt t (w.alloc o) := h.below (below_alloc w o)
theorem grown_alloc {a b : World} {row : Option Nat} (h : a.grownBy b row) (o : Obj) : a.grownBy (b.alloc o) row := grown_trans h (World.grownBy_alloc b o row)
/-- The cutting of a word. -/
theorem cut_at {t t1 : Bs} {f : UInt8 → Bool} (h : PS pb sb cap txt t1 w) (hs : Scan f t t1) (ht : t <:+ txt) (m c : Nat) : (convert 49 9 (.slice (some ⟨sb, txt.length - t.length, none⟩) (txt.length - t1.length - (txt.length - t.length)) c)).run Tryd.prog (w.drewN m) = .ok (.string ⟨(t.take (t.length - t1.length)).toArray⟩) (w.drewN m) := by
  have h1 := ht.length_le
  have h2 := hs.le
  have e : txt.length - t1.length - (txt.length - t.length) = t.length - t1.length := by omega
  rw [e]
  exact conv_at (h.drewN m) ht _ c (by omega)
set_option maxHeartbeats 2000000 in
set_option maxRecDepth 100000 in
theorem cvar_any {c0 : UInt8} {r0 : Bs} (h : PS pb sb cap txt (c0 :: r0) w) (h0 : lB c0 = true) : Calls Tryd.prog 38 #[.pointer (some ⟨pb, 0, none⟩)] w (VarOut pb sb cap txt ((c0 :: r0).takeWhile wB) (((c0 :: r0).dropWhile wB).dropWhile spB) w) := by
  have HP := Lib.hid h
  have H0 := Lib.hid h0
  have HSuf := Lib.hid h.suf
  have HNE : Hid (txt.length - (c0 :: r0).length < txt.length) := (suf_get h.suf).1
  clear h h0
  obtain ⟨o, HO⟩ : ∃ o, Hid (o = txt.length - (c0 :: r0).length) := ⟨_, rfl⟩
  have HY : Hid (∀ W, PS pb sb cap txt (c0 :: r0) W → W.cell? ⟨pb, 1, none⟩ = some (.int .i64 (o : Int))) := fun W hp => (cells_of_heap hp.obj 1).trans (by rw [HO.out]; rfl)
  go_enter Tryd.func38, Tryd.ntmps38
  go_wp2_with (first | (go_at_call 21; refine (eof_cons HP.out).mono ?_; rintro e w2 ⟨rfl, hp, hg⟩; have H2 := Lib.hid hp; have HG2 := Lib.hid hg; clear hp hg) | (go_at_call 25; refine (current_any H2.out).mono ?_; rintro e w3 ⟨rfl, hp, hg⟩; have H3 := Lib.hid hp; have HG3 := Lib.hid (grown_trans HG2.out hg); have y1 := HY.out _ hp; clear hp hg) | (go_at_call 42; refine (letter_u H3.out H3.out.head).mono ?_; rintro e w4 ⟨rfl, rfl⟩; rw [H0.out]))
  obtain ⟨t, ht⟩ : ∃ t, t = c0 :: r0 := ⟨_, rfl⟩
  rw [← ht] at HP HSuf HNE HO H2 H3 ⊢
  have HTT := Lib.hid ht
  clear ht H0 y1 HY
  go_loopw [4] (fun _ wr => ∃ t1, Hid (PS pb sb cap txt t1 wr) ∧ Hid (w.grownBy wr (some pb)) ∧ Hid (Scan wB t t1)) (fun _ wr => txt.length - offIn wr pb)
  case atStart => exact ⟨t, H3.out, HG3.out, .refl _ _⟩
  case round =>
    obtain ⟨t1, H1, HG, HSc⟩ := hrel
    cases t1 with
    | nil =>
      generalize htt : ([] : Bs) = t1 at H1 HSc
      have HT := Lib.hid htt
      clear htt
      go_wp2_with (first | (go_at_call 21; refine (eof_nil (HT.out ▸ H1.out)).mono ?_; rintro e w2 ⟨rfl, hp, hg⟩; have H2 : Hid (PS pb sb cap txt t1 w2) := (show [] = t1 from HT.out) ▸ hp; have HG2 := Lib.hid (grown_trans HG.out hg); clear hp hg))
      have hcv := fun m c => cut_at H2.out HSc.out HSuf.out m c
      rw [← HO.out] at hcv
      have x0 := cells_of_heap H2.out.obj 0
      have x1 := cells_of_heap H2.out.obj 1
      have hle1 := H2.out.le
      have hle2 := HSuf.out.length_le
      have hle3 := HSc.out.le
      have hcap := H2.out.cap
      have hlen := H2.out.len
      have hlt := HNE.out
      obtain ⟨o1, ho1⟩ : ∃ o1, o1 = txt.length - t1.length := ⟨_, rfl⟩
      rw [← ho1] at x1 hcv
      have HW1 : Hid (o = txt.length - t.length) := HO.out
      have ho := HO.out
      have hz1 : (o : Int) ≤ (o1 : Int) := by omega
      have hz2 : (o1 : Int) ≤ (cap : Int) := by omega
      have hz3 : (0 : Int) ≤ (o : Int) := by omega
      have hcne : ¬ cap = o := by omega
      have HSP := Lib.hid (HSc.out.done (fun c r e => by rw [← show [] = t1 from HT.out] at e; cases e))
      clear hle1 hle2 hle3 hlen hcap hlt ho ho1
      go_wp2_with fail
      go_quiet (fail)
      go_wp2_with (go_at_call 19; refine (skip_any (H2.out.drewN _)).mono ?_; rintro e w7 ⟨rfl, hp, hg⟩; have H7 := Lib.hid hp; have HG7 := Lib.hid (grown_trans (grown_drewN HG2.out _) hg); clear hp hg)
      go_ret
      refine ⟨w7.heap.size, rfl, HG7.out.size, ?_, ?_, grown_alloc HG7.out _⟩
      · rw [← show t = c0 :: r0 from HTT.out, HSP.out.1]
        exact heap_alloc_new w7 _
      · rw [← show t = c0 :: r0 from HTT.out, HSP.out.2]
        exact H7.out.alloc _
    | cons c r =>
      have hcases : (lB c = true ∧ True ∧ True) ∨ (lB c = false ∧ ((c.toNat : Int) != 95) = false ∧ True) ∨ (lB c = false ∧ ((c.toNat : Int) != 95) = true ∧ dB c = true) ∨ (lB c = false ∧ ((c.toNat : Int) != 95) = true ∧ dB c = false) := by
        cases lB c <;> cases dB c <;> cases ((c.toNat : Int) != 95) <;> simp
      rcases hcases with hcase | hcase | hcase | hcase
      · obtain ⟨hf1, hf2, hf3⟩ := hcase
        have HW : Hid (wB c = true) := by show wB c = true; unfold wB; first | (rw [hf1]; rfl) | (rw [decide_eq_true (show c.toNat = 95 by simp at hf2; omega)]; simp) | (rw [hf3]; simp)
        have HF1 := Lib.hid hf1
        have HF3 := Lib.hid hf3
        clear hf1 hf3
        go_wp2_with (first | (go_at_call 21; refine (eof_cons H1.out).mono ?_; rintro e w2 ⟨rfl, hp, hg⟩; have H2 := Lib.hid hp; have HG2 := Lib.hid (grown_trans HG.out hg); clear hp hg) | (go_at_call 25; refine (current_any H2.out).mono ?_; rintro e w3 ⟨rfl, hp, hg⟩; have H3 := Lib.hid hp; have HG3 := Lib.hid (grown_trans HG2.out hg); clear hp hg) | (go_at_call 42; refine (letter_u H3.out H3.out.head).mono ?_; rintro e w4 ⟨rfl, rfl⟩; rw [HF1.out]) | (go_at_call 40; refine (digit_u H3.out.head _).mono ?_; rintro e w4 ⟨rfl, rfl⟩; rw [HF3.out]) | (go_at_call 26; refine (next_any H3.out).mono ?_; rintro e w5 ⟨rfl, hp, hg⟩; have H5 := Lib.hid hp; have HG5 := Lib.hid (grown_trans HG3.out hg); clear hp hg))
        refine ⟨⟨r, H5.out, HG5.out, HSc.out.next HW.out⟩, ?_⟩
        rw [H5.out.off, H1.out.off]
        have := H1.out.le
        simp at this ⊢
        omega
      · obtain ⟨hf1, hf2, hf3⟩ := hcase
        have HW : Hid (wB c = true) := by show wB c = true; unfold wB; first | (rw [hf1]; rfl) | (rw [decide_eq_true (show c.toNat = 95 by simp at hf2; omega)]; simp) | (rw [hf3]; simp)
        have HF1 := Lib.hid hf1
        have HF3 := Lib.hid hf3
        clear hf1 hf3
        go_wp2_with (first | (go_at_call 21; refine (eof_cons H1.out).mono ?_; rintro e w2 ⟨rfl, hp, hg⟩; have H2 := Lib.hid hp; have HG2 := Lib.hid (grown_trans HG.out hg); clear hp hg) | (go_at_call 25; refine (current_any H2.out).mono ?_; rintro e w3 ⟨rfl, hp, hg⟩; have H3 := Lib.hid hp; have HG3 := Lib.hid (grown_trans HG2.out hg); clear hp hg) | (go_at_call 42; refine (letter_u H3.out H3.out.head).mono ?_; rintro e w4 ⟨rfl, rfl⟩; rw [HF1.out]) | (go_at_call 40; refine (digit_u H3.out.head _).mono ?_; rintro e w4 ⟨rfl, rfl⟩; rw [HF3.out]) | (go_at_call 26; refine (next_any H3.out).mono ?_; rintro e w5 ⟨rfl, hp, hg⟩; have H5 := Lib.hid hp; have HG5 := Lib.hid (grown_trans HG3.out hg); clear hp hg))
        refine ⟨⟨r, H5.out, HG5.out, HSc.out.next HW.out⟩, ?_⟩
        rw [H5.out.off, H1.out.off]
        have := H1.out.le
        simp at this ⊢
        omega
      · obtain ⟨hf1, hf2, hf3⟩ := hcase
        have HW : Hid (wB c = true) := by show wB c = true; unfold wB; first | (rw [hf1]; rfl) | (rw [decide_eq_true (show c.toNat = 95 by simp at hf2; omega)]; simp) | (rw [hf3]; simp)
        have HF1 := Lib.hid hf1
        have HF3 := Lib.hid hf3
        clear hf1 hf3
        go_wp2_with (first | (go_at_call 21; refine (eof_cons H1.out).mono ?_; rintro e w2 ⟨rfl, hp, hg⟩; have H2 := Lib.hid hp; have HG2 := Lib.hid (grown_trans HG.out hg); clear hp hg) | (go_at_call 25; refine (current_any H2.out).mono ?_; rintro e w3 ⟨rfl, hp, hg⟩; have H3 := Lib.hid hp; have HG3 := Lib.hid (grown_trans HG2.out hg); clear hp hg) | (go_at_call 42; refine (letter_u H3.out H3.out.head).mono ?_; rintro e w4 ⟨rfl, rfl⟩; rw [HF1.out]) | (go_at_call 40; refine (digit_u H3.out.head _).mono ?_; rintro e w4 ⟨rfl, rfl⟩; rw [HF3.out]) | (go_at_call 26; refine (next_any H3.out).mono ?_; rintro e w5 ⟨rfl, hp, hg⟩; have H5 := Lib.hid hp; have HG5 := Lib.hid (grown_trans HG3.out hg); clear hp hg))
        refine ⟨⟨r, H5.out, HG5.out, HSc.out.next HW.out⟩, ?_⟩
        rw [H5.out.off, H1.out.off]
        have := H1.out.le
        simp at this ⊢
        omega
      · obtain ⟨hf1, hf2, hf3⟩ := hcase
        have HW : Hid (wB c = false) := by show wB c = false; unfold wB; rw [hf1, hf3, decide_eq_false (show ¬ c.toNat = 95 by simp at hf2; omega)]; rfl
        have HF1 := Lib.hid hf1
        have HF3 := Lib.hid hf3
        clear hf1 hf3
        go_wp2_with (first | (go_at_call 21; refine (eof_cons H1.out).mono ?_; rintro e w2 ⟨rfl, hp, hg⟩; have H2 := Lib.hid hp; have HG2 := Lib.hid (grown_trans HG.out hg); clear hp hg) | (go_at_call 25; refine (current_any H2.out).mono ?_; rintro e w3 ⟨rfl, hp, hg⟩; have H3 := Lib.hid hp; have HG3 := Lib.hid (grown_trans HG2.out hg); clear hp hg) | (go_at_call 42; refine (letter_u H3.out H3.out.head).mono ?_; rintro e w4 ⟨rfl, rfl⟩; rw [HF1.out]) | (go_at_call 40; refine (digit_u H3.out.head _).mono ?_; rintro e w4 ⟨rfl, rfl⟩; rw [HF3.out]))
        have HW2 : Hid (∀ c' r', c :: r = c' :: r' → wB c' = false) := fun c' r' e => by cases e; exact HW.out
        obtain ⟨t1, ht1⟩ : ∃ t1, t1 = c :: r := ⟨_, rfl⟩
        rw [← ht1] at H3 HSc HW2
        clear ht1 H1 HW
        have hcv := fun m c => cut_at H3.out HSc.out HSuf.out m c
        rw [← HO.out] at hcv
        have x0 := cells_of_heap H3.out.obj 0
        have x1 := cells_of_heap H3.out.obj 1
        have hle1 := H3.out.le
        have hle2 := HSuf.out.length_le
        have hle3 := HSc.out.le
        have hcap := H3.out.cap
        have hlen := H3.out.len
        have hlt := HNE.out
        obtain ⟨o1, ho1⟩ : ∃ o1, o1 = txt.length - t1.length := ⟨_, rfl⟩
        rw [← ho1] at x1 hcv
        have HW1 : Hid (o = txt.length - t.length) := HO.out
        have ho := HO.out
        have hz1 : (o : Int) ≤ (o1 : Int) := by omega
        have hz2 : (o1 : Int) ≤ (cap : Int) := by omega
        have hz3 : (0 : Int) ≤ (o : Int) := by omega
        have hcne : ¬ cap = o := by omega
        have HSP := Lib.hid (HSc.out.done HW2.out)
        clear hle1 hle2 hle3 hlen hcap hlt ho ho1
        go_wp2_with fail
        go_quiet (fail)
        go_wp2_with (go_at_call 19; refine (skip_any (H3.out.drewN _)).mono ?_; rintro e w7 ⟨rfl, hp, hg⟩; have H7 := Lib.hid hp; have HG7 := Lib.hid (grown_trans (grown_drewN HG3.out _) hg); clear hp hg)
        go_ret
        refine ⟨w7.heap.size, rfl, HG7.out.size, ?_, ?_, grown_alloc HG7.out _⟩
        · rw [← show t = c0 :: r0 from HTT.out, HSP.out.1]
          exact heap_alloc_new w7 _
        · rw [← show t = c0 :: r0 from HTT.out, HSP.out.2]
          exact H7.out.alloc _
end
end Go.Proofs.YtkcpfgnfhbbhhaaDoor.po
