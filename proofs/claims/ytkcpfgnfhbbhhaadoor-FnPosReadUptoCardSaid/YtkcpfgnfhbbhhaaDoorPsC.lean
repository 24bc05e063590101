/-
  The parser of positions: consume, expect. Conditions: in the statements.
-/
import Derived.Test.YtkcpfgnfhbbhhaaDoorPsB
set_option linter.unusedVariables false
set_option linter.unusedSimpArgs false
namespace Go.Proofs.YtkcpfgnfhbbhhaaDoor.po
open Go.RowKit
section
variable {pb sb cap : Nat} {txt t t' : Bs} {w w' : World}
set_option maxHeartbeats 1000000 in
set_option maxRecDepth 100000 in
theorem cons_no (h : PS pb sb cap txt t w) (s : ByteArray) (hs0 : 0 < s.size) (hs : s.size ≤ 100) (ht : ¬ s.data.toList <+: t) : Calls Tryd.prog 28 #[.pointer (some ⟨pb, 0, none⟩), .string s] w (Ps pb sb cap txt (.bool false) t w) := by
  have x0 := cells_of_heap h.obj 0
  have x1 := cells_of_heap h.obj 1
  have hlen := h.len
  have hle := h.le
  have hcap := h.cap
  have HP := Lib.hid h
  have HC : Hid (∀ m c, s.size ≤ t.length → (convert 49 9 (.slice (some ⟨sb, txt.length - t.length, none⟩) s.size c)).run Tryd.prog (w.drewN m) = .ok (.string ⟨(t.take s.size).toArray⟩) (w.drewN m)) := fun m c hk => conv_at (h.drewN m) h.suf _ _ hk
  have HC2 : Hid (∀ m m' c, s.size ≤ t.length → (convert 49 9 (.slice (some ⟨sb, txt.length - t.length, none⟩) s.size c)).run Tryd.prog ((w.drewN m).drewN m') = .ok (.string ⟨(t.take s.size).toArray⟩) ((w.drewN m).drewN m')) := fun m m' c hk => conv_at ((h.drewN m).drewN m') h.suf _ _ hk
  have HE : Hid (txt.length - t.length + s.size ≤ txt.length ↔ s.size ≤ t.length) := by show _ ↔ _; omega
  obtain ⟨o, ho⟩ : ∃ o, o = txt.length - t.length := ⟨_, rfl⟩
  rw [← ho] at x1 HC HC2 HE
  obtain ⟨n, hn⟩ : ∃ n, n = txt.length := ⟨_, rfl⟩
  rw [← hn] at x0 x1 hlen hcap HE
  have hon : o ≤ n := by omega
  have hcz : (n : Int) ≤ (cap : Int) := by omega
  clear h hle ho hn
  by_cases hk : o + s.size ≤ n
  · have hz : (o : Int) + (s.size : Int) ≤ (n : Int) := by omega
    have hz2 : ¬ (n : Int) < (o : Int) + (s.size : Int) := by omega
    have hz3 : (o : Int) ≤ (o : Int) + (s.size : Int) := by omega
    have hwr : IntKind.i64.wrap ((o : Int) + (s.size : Int)) = (o : Int) + (s.size : Int) := IntWalk.i64_in _ (by omega)
    have hz4 : (o : Int) + (s.size : Int) ≤ (cap : Int) := by omega
    have hz5 : (0 : Int) ≤ (o : Int) := by omega
    have hcne : ¬ cap = o := by omega
    have hc := fun m c => HC.out m c (HE.out.1 hk)
    have hc2 := fun m m' c => HC2.out m m' c (HE.out.1 hk)
    have hp : ((⟨(t.take s.size).toArray⟩ : ByteArray).toList == s.toList) = false := by
      rw [Bool.eq_false_iff]
      intro e
      rw [beq_iff_eq] at e
      refine ht ?_
      rw [Lib.toList_data, Lib.toList_data] at e
      have e2 : t.take s.size = s.data.toList := by simpa using e
      rw [← e2]
      exact List.take_prefix _ _
    obtain ⟨S2, hS2⟩ : ∃ S2 : ByteArray, S2 = ⟨(t.take s.size).toArray⟩ := ⟨_, rfl⟩
    rw [← hS2] at hp
    simp only [← hS2] at hc hc2
    clear hS2
    go_enter Tryd.func28, Tryd.ntmps28
    go_wp2_with fail
    go_quiet (fail)
    go_wp2_with fail
    go_quiet (fail)
    go_wp2_with fail
    go_ret
    exact ⟨rfl, HP.out.drewN _, grown_drewN (grown_refl _ _) _⟩
  · have hz2 : (n : Int) < (o : Int) + (s.size : Int) := by omega
    go_enter Tryd.func28, Tryd.ntmps28
    go_wp2_with fail
    go_quiet (fail)
    go_wp2_with fail
    go_ret
    exact ⟨rfl, HP.out.drewN _, grown_drewN (grown_refl _ _) _⟩
set_option maxHeartbeats 1000000 in
set_option maxRecDepth 100000 in
theorem cons_yes {r : Bs} (s : ByteArray) (h : PS pb sb cap txt (s.data.toList ++ r) w) (hs0 : 0 < s.size) (hs : s.size ≤ 100) : Calls Tryd.prog 28 #[.pointer (some ⟨pb, 0, none⟩), .string s] w (Ps pb sb cap txt (.bool true) (r.dropWhile spB) w) := by
  have x0 := cells_of_heap h.obj 0
  have x1 := cells_of_heap h.obj 1
  have hf := free_of_heap h.obj 1
  have hlen := h.len
  have hle := h.le
  have hcap := h.cap
  have hls : s.data.toList.length = s.size := Array.length_toList ..
  have e0 : (⟨((s.data.toList ++ r).take s.size).toArray⟩ : ByteArray) = s := by
    rw [List.take_append_of_le_length (by omega), List.take_of_length_le (by omega)]
  have HC : Hid (∀ m c, (convert 49 9 (.slice (some ⟨sb, txt.length - (s.data.toList ++ r).length, none⟩) s.size c)).run Tryd.prog (w.drewN m) = .ok (.string s) (w.drewN m)) := fun m c => (conv_at (h.drewN m) h.suf s.size c (by simp)).trans (by rw [e0])
  have HC2 : Hid (∀ m m' c, (convert 49 9 (.slice (some ⟨sb, txt.length - (s.data.toList ++ r).length, none⟩) s.size c)).run Tryd.prog ((w.drewN m).drewN m') = .ok (.string s) ((w.drewN m).drewN m')) := fun m m' c => (conv_at ((h.drewN m).drewN m') h.suf s.size c (by simp)).trans (by rw [e0])
  have hle2 : txt.length - (s.data.toList ++ r).length + s.size ≤ txt.length := by simp at hle ⊢; omega
  have HS : Hid (∀ W : World, w.grownBy W (some pb) → W.heap[pb]? = w.heap[pb]? → ∀ z : Int, z = ((txt.length - (s.data.toList ++ r).length : Nat) : Int) + (s.size : Int) → PS pb sb cap txt r (W.setCell ⟨pb, 1, none⟩ (.int .i64 z)) ∧ w.grownBy (W.setCell ⟨pb, 1, none⟩ (.int .i64 z)) (some pb)) := fun W hg hw z hz => by
    have hg2 := grown_set hg 1 (.int .i64 z)
    refine ⟨h.grown hg2 ?_ ?_, hg2⟩
    · rw [set_of_heap (hw.trans h.obj) 1 _, hz]
      congr 4
      simp
      simp at hle
      omega
    · exact (List.suffix_append _ _).trans h.suf
  obtain ⟨o, ho⟩ : ∃ o, o = txt.length - (s.data.toList ++ r).length := ⟨_, rfl⟩
  rw [← ho] at x1 HC HC2 HS hle2
  obtain ⟨n, hn⟩ : ∃ n, n = txt.length := ⟨_, rfl⟩
  rw [← hn] at x0 x1 hlen hcap hle2
  have hz : (o : Int) + (s.size : Int) ≤ (n : Int) := by omega
  have hz2 : ¬ (n : Int) < (o : Int) + (s.size : Int) := by omega
  have hz3 : (o : Int) ≤ (o : Int) + (s.size : Int) := by omega
  have hwr : IntKind.i64.wrap ((o : Int) + (s.size : Int)) = (o : Int) + (s.size : Int) := IntWalk.i64_in _ (by omega)
  have hz4 : (o : Int) + (s.size : Int) ≤ (cap : Int) := by omega
  have hz5 : (0 : Int) ≤ (o : Int) := by omega
  have hcne : ¬ cap = o := by omega
  have hc := HC.out
  have hc2 := HC2.out
  clear h hle ho hn e0 hls HC HC2
  go_enter Tryd.func28, Tryd.ntmps28
  go_wp2_with fail
  go_quiet (fail)
  go_wp2_with fail
  go_quiet (fail)
  go_wp2_with (go_at_call 19; refine (skip_any (HS.out _ (grown_drewN (grown_refl _ _) _) rfl _ rfl).1).mono ?_; rintro e w5 ⟨rfl, hp, hg⟩; have H5 := Lib.hid hp; have HG5 := Lib.hid (grown_trans (HS.out _ (grown_drewN (grown_refl _ _) _) rfl _ rfl).2 hg); clear hp hg)
  go_ret
  exact ⟨rfl, H5.out, HG5.out⟩
theorem expect_any {r : Bs} (s : ByteArray) (h : PS pb sb cap txt (s.data.toList ++ r) w) (hs0 : 0 < s.size) (hs : s.size ≤ 100) : Calls Tryd.prog 36 #[.pointer (some ⟨pb, 0, none⟩), .string s] w (Ps pb sb cap txt (.tuple #[]) (r.dropWhile spB) w) := by
  have HP := Lib.hid h
  clear h
  go_enter Tryd.func36, Tryd.ntmps36
  go_wp2_with (go_at_call 28; refine (cons_yes s HP.out hs0 hs).mono ?_; rintro e w5 ⟨rfl, hp, hg⟩; have H5 := Lib.hid hp; have HG5 := Lib.hid hg; clear hp hg)
  go_end0
  exact ⟨rfl, H5.out, HG5.out⟩
end
end Go.Proofs.YtkcpfgnfhbbhhaaDoor.po
