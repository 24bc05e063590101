/-
  laws.digits. Conditions: in the statement.
-/
import Derived.Test.YtkcpfgnfhbbhhaaDoorPosG
import Derived.Test.YtkcpfgnfhbbhhaaDoorPosM
import Derived.Test.YtkcpfgnfhbbhhaaDoorPosW
import Derived.WalkLawsBesides
import Derived.Laws.IdiomStrings
set_option linter.unusedVariables false
set_option linter.unusedSimpArgs false
namespace Go.Proofs.YtkcpfgnfhbbhhaaDoor.po
open Go.RowKit

theorem digits_lt {n : Nat} (h : n < 10) : digitsB n = [UInt8.ofNat (48 + n)] := by rw [digitsB, dif_pos h]
theorem digits_ge {n : Nat} (h : ¬ n < 10) : digitsB n = digitsB (n / 10) ++ digitsB (n % 10) := by
  rw [digitsB, dif_neg h, digits_lt (Nat.mod_lt n (by omega))]
theorem conv_one (w : World) (c : UInt8) : (convert 25 9 (.slice (some ⟨w.heap.size, 0, none⟩) 1 1)).run Tryd.prog (w.alloc (.cells #[.int .u8 (c.toNat : Int)] 5)) = .ok (.string ⟨#[c]⟩) (w.alloc (.cells #[.int .u8 (c.toNat : Int)] 5)) := by
  have := run_convert_bytes_back (P := Tryd.prog) (w.alloc (.cells #[.int .u8 (c.toNat : Int)] 5)) 25 9 5 ⟨w.heap.size, 0, none⟩ 1 [c] Tryd.underlying25 Tryd.underlying5 Tryd.underlying9 (fun j hj => by
    have e : j = 0 := by simp at hj; omega
    subst e
    rw [add_none, cells_of_heap (heap_alloc_new w _)]
    rfl)
  exact this
set_option maxHeartbeats 4000000 in
set_option maxRecDepth 100000 in
theorem digits_any : ∀ (n : Nat), n < 1099511627776 → ∀ w : World, Calls Tryd.prog 13 #[.int .i64 (n : Int)] w fun e w' => e = .returned (.string ⟨(digitsB n).toArray⟩) ∧ Below w.heap.size w w' := by
  intro n
  induction n using Nat.strongRecOn with
  | _ n ih =>
    intro hn w
    by_cases h : n < 10
    · have hz : (n : Int) < 10 := by omega
      have hz0 : (0 : Int) ≤ (n : Int) := by omega
      have HC : Hid ((UInt8.ofNat (48 + n)).toNat = 48 + n) := by
        show _ = _
        rw [UInt8.toNat_ofNat']
        omega
      have hcv := conv_one w (UInt8.ofNat (48 + n))
      rw [HC.out] at hcv
      rw [digits_lt h]
      obtain ⟨c, hc⟩ : ∃ c, c = UInt8.ofNat (48 + n) := ⟨_, rfl⟩
      rw [← hc] at hcv ⊢
      have hcv2 : (convert 25 9 (.slice (some ⟨w.heap.size, 0, none⟩) 1 1)).run Tryd.prog (w.alloc (.cells #[.int .u8 (48 + (n : Int))] 5)) = .ok (.string ⟨#[c]⟩) (w.alloc (.cells #[.int .u8 (48 + (n : Int))] 5)) := by
        have e : ((48 + n : Nat) : Int) = 48 + (n : Int) := by omega
        rw [e] at hcv
        exact hcv
      clear ih HC hc hcv
      go_enter Tryd.func13, Tryd.ntmps13
      go_wp2_with fail
      go_ret
      exact ⟨rfl, below_alloc w _⟩
    · have hz : ¬ (n : Int) < 10 := by omega
      have h1 : ∀ w, Calls Tryd.prog 13 #[.int .i64 ((n : Int) / 10)] w fun e w' => e = .returned (.string ⟨(digitsB (n / 10)).toArray⟩) ∧ Below w.heap.size w w' := fun w => ih (n / 10) (by omega) (by omega) w
      have h2 : ∀ w, Calls Tryd.prog 13 #[.int .i64 ((n : Int) % 10)] w fun e w' => e = .returned (.string ⟨(digitsB (n % 10)).toArray⟩) ∧ Below w.heap.size w w' := fun w => ih (n % 10) (by omega) (by omega) w
      have H1 := Lib.hid h1
      have H2 := Lib.hid h2
      rw [digits_ge h]
      obtain ⟨d1, hd1⟩ : ∃ d1, d1 = digitsB (n / 10) := ⟨_, rfl⟩
      obtain ⟨d2, hd2⟩ : ∃ d2, d2 = digitsB (n % 10) := ⟨_, rfl⟩
      have hl1 : d1.length ≤ 18 := by rw [hd1]; exact digits_length 17 _ (by omega)
      have hl2 : d2.length ≤ 18 := by rw [hd2]; exact digits_length 17 _ (by omega)
      rw [← hd1] at H1 ⊢
      rw [← hd2] at H2 ⊢
      clear ih h1 h2 hd1 hd2
      go_enter Tryd.func13, Tryd.ntmps13
      go_wp2_with fail
      refine (H1.out _).mono ?_
      rintro e w2 ⟨rfl, hb2⟩
      have HB2 := Lib.hid hb2
      clear hb2
      go_wp2_with fail
      refine (H2.out _).mono ?_
      rintro e w3 ⟨rfl, hb3⟩
      have HB3 := Lib.hid hb3
      clear hb3
      go_wp2_with fail
      go_ret
      refine ⟨?_, HB2.out.trans (HB3.out.mono HB2.out.size)⟩
      show Ending.returned (.string (⟨d1.toArray⟩ ++ ⟨d2.toArray⟩)) = _
      congr 2
end Go.Proofs.YtkcpfgnfhbbhhaaDoor.po
