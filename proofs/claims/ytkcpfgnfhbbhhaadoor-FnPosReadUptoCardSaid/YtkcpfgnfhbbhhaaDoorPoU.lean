/-
  laws.zzFits4 at an expression, and laws.readsPos. Conditions: in the statements.
-/
import Derived.Test.YtkcpfgnfhbbhhaaDoorPoG
import Derived.Test.YtkcpfgnfhbbhhaaDoorPoT
set_option linter.unusedVariables false
set_option linter.unusedSimpArgs false
namespace Go.Proofs.YtkcpfgnfhbbhhaaDoor.po
open Go.RowKit

set_option maxHeartbeats 4000000 in
set_option maxRecDepth 100000 in
theorem fits_any {T : PT} {W : World} {a0 a1 a2 a3 : Value} (ha : PosAt W T [a0, a1, a2, a3]) (hB : T.bulk ≤ 1048576) : Calls Tryd.prog 4 #[.agg #[a0, a1, a2, a3]] W fun e W' => e = .returned (.bool true) ∧ Below W.heap.size W W' := by
  cases T with
  | mk k nm n l =>
  obtain ⟨K, N, p, cap, rfl, rfl, h1, h2, h3, h4, hcs, hl⟩ := ha.open
  obtain ⟨rfl, rfl, rfl, rfl⟩ : a0 = .string K ∧ a1 = .string N ∧ a2 = .int .i64 n ∧ a3 = .slice p l.length cap := by simpa using hcs
  have hb : K.size + N.size + 1 + l.length ≤ 1048576 := by
    rw [PT.bulk] at hB
    have := len_bulks l
    have e1 : K.size = K.data.toList.length := (Array.length_toList).symm
    have e2 : N.size = N.data.toList.length := (Array.length_toList).symm
    omega
  obtain ⟨m, hm⟩ : ∃ m, m = l.length := ⟨_, rfl⟩
  rw [← hm] at hb ⊢
  have z1 : ¬ (2147483647 : Int) < (K.size : Int) := by omega
  have z2 : ¬ (2147483647 : Int) < (N.size : Int) := by omega
  have z3 : ¬ (2147483647 : Int) < (m : Int) := by omega
  clear hb hm h1 h2 h3 h4 hcs hl ha hB
  go_enter Tryd.func4, Tryd.ntmps4
  go_wp2_with fail
  go_ret
  exact ⟨rfl, below_alloc W _⟩
def tA : PT := .mk kPos [] 0 [.mk kVar [97] 0 []]
theorem S_tA : S sP tA := .pos _ _ (.inl rfl) (.var _ _ (by decide +kernel) (by decide))
theorem toks_tA : toks tA = [[97], [46], [112, 111, 115]] := by
  rw [tA, toks_pos (.inl rfl), toks_var]
  rfl
set_option maxHeartbeats 4000000 in
set_option maxRecDepth 100000 in
theorem reads_any {w : World} (hT : Lib.TabIs Tryd.prog w "unicode.properties" .u8 Lib.propertiesTab) :
    Calls Tryd.prog 7 #[] w fun e W' => e = .returned (.bool true) ∧ Below w.heap.size w W' := by
  have HP : Hid (Calls Tryd.prog 9 #[.string ⟨#[97, 46, 112, 111, 115]⟩] w (ReadOut tA w)) := by
    have hS := S_tA
    have ht := toks_tA
    have hsp := spell_text (fun _ => 0) (toks_fine hS)
    rw [ht] at hsp
    have e : text (fun _ => 0) [[97], [46], [112, 111, 115]] = [97, 46, 112, 111, 115] := by decide
    rw [e] at hsp
    refine readpos_any hS (by decide +kernel) (by decide +kernel) (by have := text_clean (fun _ => 0) (toks_ok hS); rw [ht, e] at this; exact this) (by rw [ht]; exact hsp) (by decide) (by decide) hT
  clear hT
  go_enter Tryd.func7, Tryd.ntmps7
  go_wp2_with fail
  refine HP.out.mono ?_
  rintro e w2 ⟨c0, c1, c2, c3, rfl, hp, hb2⟩
  obtain ⟨K, N, p, cap, hK, hN, h1, h2, h3, h4, hcs, hl⟩ := hp.open
  obtain ⟨rfl, rfl, rfl, rfl⟩ : c0 = .string K ∧ c1 = .string N ∧ c2 = .int .i64 0 ∧ c3 = .slice p 1 cap := by simpa using hcs
  obtain rfl : K = ⟨#[112, 111, 115]⟩ := bytes_inj hK.symm
  have HB2 := Lib.hid hb2
  clear hp hb2 hK hN h1 h2 h3 h4 hcs hl
  go_wp2_with fail
  go_ret
  exact ⟨rfl, HB2.out.alloc HB2.out.size _⟩
end Go.Proofs.YtkcpfgnfhbbhhaaDoor.po
