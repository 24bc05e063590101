/-
  Which texts are words: laws.digit, letter, wordy, word. Conditions: in the statements.
-/
import Derived.Test.YtkcpfgnfhbbhhaaDoorPosM
set_option linter.unusedVariables false
set_option linter.unusedSimpArgs false
namespace Go.Proofs.YtkcpfgnfhbbhhaaDoor.po
open Go.RowKit

def digZ (a : Int) : Bool := decide (48 ≤ a ∧ a ≤ 57)
def letZ (a : Int) : Bool := decide ((97 ≤ a ∧ a ≤ 122) ∨ (65 ≤ a ∧ a ≤ 90) ∨ a = 95)
theorem ret_bool {a b : Bool} (h : a = b) : Ending.returned (.bool a) = .returned (.bool b) := by rw [h]
theorem digit_any (a : Int) (w : World) : Calls Tryd.prog 23 #[.int .u8 a] w fun e w' => e = .returned (.bool (digZ a)) ∧ w = w' := by
  go_enter Tryd.func23, Tryd.ntmps23
  go_wp2
  all_goals go_ret
  all_goals exact ⟨ret_bool (by unfold digZ; first | (simp <;> omega) | (rw [Bool.eq_iff_iff]; simp <;> omega)), rfl⟩
theorem letter_any (a : Int) (w : World) : Calls Tryd.prog 16 #[.int .u8 a] w fun e w' => e = .returned (.bool (letZ a)) ∧ w = w' := by
  go_enter Tryd.func16, Tryd.ntmps16
  go_wp2
  all_goals go_ret
  all_goals exact ⟨ret_bool (by unfold letZ; first | (simp <;> omega) | (rw [Bool.eq_iff_iff]; simp <;> omega)), rfl⟩
theorem wordy_any (a : Int) (w : World) : Calls Tryd.prog 17 #[.int .u8 a] w fun e w' => e = .returned (.bool (letZ a || digZ a)) ∧ w = w' := by
  go_enter Tryd.func17, Tryd.ntmps17
  go_wp2_with (first | (go_at_call 16; refine (letter_any _ _).mono ?_; rintro e w' ⟨rfl, rfl⟩) | (go_at_call 23; refine (digit_any _ _).mono ?_; rintro e w' ⟨rfl, rfl⟩))
  all_goals go_ret
  all_goals exact ⟨ret_bool (by simp_all), rfl⟩
theorem byte_of {P : UInt8 → Prop} (h : ∀ n, n < 256 → P (UInt8.ofNat n)) (c : UInt8) : P c := by
  have := h c.toNat c.toNat_lt
  rwa [UInt8.ofNat_toNat] at this
theorem letZ_eq (c : UInt8) : letZ (c.toNat : Int) = letB c := by
  refine byte_of (P := fun c => letZ (c.toNat : Int) = letB c) ?_ c
  decide +kernel
theorem digZ_eq (c : UInt8) : digZ (c.toNat : Int) = digB c := by
  refine byte_of (P := fun c => digZ (c.toNat : Int) = digB c) ?_ c
  decide +kernel
theorem wordyZ_eq (c : UInt8) : (letZ (c.toNat : Int) || digZ (c.toNat : Int)) = wordy c := by rw [letZ_eq, digZ_eq]; rfl
theorem list_size (s : ByteArray) : s.data.toList.length = s.size := Array.length_toList ..
theorem list_get (s : ByteArray) (j : Nat) (h : j < s.size) : s.data.toList[j]'(by rw [list_size]; exact h) = s[j] := by
  rw [Array.getElem_toList]
  rfl
theorem empty_of {s : ByteArray} (h : s.size = 0) : s.toList.isEmpty = true := by
  rw [Lib.toList_data]
  have := list_size s
  rw [h] at this
  rw [List.length_eq_zero_iff.1 this]
  rfl
theorem not_empty {s : ByteArray} (h : 0 < s.size) : s.toList.isEmpty = false := by
  rw [Lib.toList_data]
  have := list_size s
  cases hl : s.data.toList with
  | nil => rw [hl] at this; simp at this; omega
  | cons c r => rfl
theorem wordB_no {s : ByteArray} (h : s.size = 0) : wordB s.data.toList = false := by
  have := list_size s
  rw [h] at this
  rw [List.length_eq_zero_iff.1 this]
  rfl
theorem wordB_first {s : ByteArray} (h : 0 < s.size) (h1 : letZ (s[0].toNat : Int) = false) : wordB s.data.toList = false := by
  have h2 := list_size s
  have h3 := list_get s 0 h
  cases hl : s.data.toList with
  | nil => rw [hl] at h2; simp at h2; omega
  | cons c r =>
    simp only [hl, List.getElem_cons_zero] at h3
    rw [letZ_eq, ← h3] at h1
    simp [wordB, h1]
theorem wordB_bad {s : ByteArray} {k : Nat} (hk : k < s.size) (h1 : 1 ≤ k) (h : (letZ (s[k].toNat : Int) || digZ (s[k].toNat : Int)) = false) : wordB s.data.toList = false := by
  have h2 := list_size s
  have h3 := list_get s k hk
  rw [wordyZ_eq, ← h3] at h
  cases hl : s.data.toList with
  | nil => rw [hl] at h2; simp at h2; omega
  | cons c r =>
    obtain ⟨j, rfl⟩ : ∃ j, k = j + 1 := ⟨k - 1, by omega⟩
    simp only [hl, List.getElem_cons_succ] at h
    rw [hl] at h2
    have hj : j < r.length := by simp at h2; omega
    have : r.all wordy = false := by
      rw [Bool.eq_false_iff]
      intro ha
      have := List.all_eq_true.1 ha _ (List.getElem_mem hj)
      rw [h] at this
      cases this
    simp [wordB, this]
theorem wordB_yes {s : ByteArray} (h0 : 0 < s.size) (h1 : letZ (s[0].toNat : Int) = true) (h : ∀ j (hj : j < s.size), 1 ≤ j → (letZ (s[j].toNat : Int) || digZ (s[j].toNat : Int)) = true) : wordB s.data.toList = true := by
  have h2 := list_size s
  have h3 := list_get s 0 h0
  cases hl : s.data.toList with
  | nil => rw [hl] at h2; simp at h2; omega
  | cons c r =>
    simp only [hl, List.getElem_cons_zero] at h3
    rw [letZ_eq, ← h3] at h1
    rw [hl] at h2
    have : r.all wordy = true := by
      rw [List.all_eq_true]
      intro x hx
      obtain ⟨j, hj, e⟩ := List.getElem_of_mem hx
      have hj1 : j + 1 < s.size := by simp at h2; omega
      have h4 := h (j + 1) hj1 (by omega)
      have h5 := list_get s (j + 1) hj1
      simp only [hl, List.getElem_cons_succ] at h5
      rw [wordyZ_eq, ← h5, e] at h4
      exact h4
    simp [wordB, h1, this]
set_option maxRecDepth 100000 in
theorem word_any (s : ByteArray) (w : World) (hs : s.size ≤ 140737488355327) : Calls Tryd.prog 12 #[.string s] w fun e w' => e = .returned (.bool (wordB s.data.toList)) ∧ w = w' := by
  rcases Nat.eq_zero_or_pos s.size with h0 | h0
  · rw [wordB_no h0]
    have he := empty_of h0
    go_enter Tryd.func12, Tryd.ntmps12
    go_wp2_with fail
    go_ret
    exact ⟨rfl, rfl⟩
  · have hne := not_empty h0
    have h00 : (0 : Int) < (s.size : Int) := by omega
    cases h1 : letZ (s[0].toNat : Int) with
    | false =>
      rw [wordB_first h0 h1]
      go_enter Tryd.func12, Tryd.ntmps12
      go_wp2_with (go_at_call 16; refine (letter_any _ _).mono ?_; rintro e w' ⟨rfl, rfl⟩; rw [h1])
      go_ret
      exact ⟨rfl, rfl⟩
    | true =>
      have H1 := Lib.hid h1
      clear h1
      obtain ⟨B, hB⟩ : ∃ B, B = wordB s.data.toList := ⟨_, rfl⟩
      have HB := Lib.hid hB
      rw [← hB]
      clear hB
      go_enter Tryd.func12, Tryd.ntmps12
      go_wp2_with (go_at_call 16; refine (letter_any _ _).mono ?_; rintro e w' ⟨rfl, rfl⟩; rw [H1.out])
      go_loop [3] (fun i => ∃ k : Nat, 1 ≤ k ∧ k ≤ s.size ∧ i = .int .i64 k ∧ Hid (∀ j (hj : j < s.size), 1 ≤ j → j < k → (letZ (s[j].toNat : Int) || digZ (s[j].toNat : Int)) = true)) (fun i => s.size - (intOf i).toNat)
      case atStart => exact ⟨1, by omega, by omega, rfl, fun j _ h2 h3 => by omega⟩
      case round =>
        obtain ⟨k, hk1, hk, rfl, HA⟩ := hrel
        by_cases hlt : k < s.size
        · cases hw : (letZ (s[k].toNat : Int) || digZ (s[k].toNat : Int)) with
          | true =>
            have HW := Lib.hid hw
            clear hw
            go_wp2_with (go_at_call 17; refine (wordy_any _ _).mono ?_; rintro e w' ⟨rfl, rfl⟩; rw [HW.out])
            go_round
            case rel => exact ⟨k + 1, by omega, by omega, by go_num, fun j hj h2 h3 => by
              rcases Nat.lt_or_ge j k with h4 | h4
              · exact HA.out j hj h2 h4
              · have : j = k := by omega
                subst this
                exact HW.out⟩
            case measure => simp [intOf]; omega
          | false =>
            have HW := Lib.hid (wordB_bad hlt hk1 hw)
            have HW2 := Lib.hid hw
            clear hw
            go_wp2_with (go_at_call 17; refine (wordy_any _ _).mono ?_; rintro e w' ⟨rfl, rfl⟩; rw [HW2.out])
            go_ret
            exact ⟨by rw [HB.out, HW.out]; rfl, rfl⟩
        · go_wp2_with fail
          go_ret
          exact ⟨by rw [HB.out, wordB_yes h0 H1.out (fun j hj h2 => HA.out j hj h2 (by omega))]; rfl, rfl⟩
end Go.Proofs.YtkcpfgnfhbbhhaaDoor.po
