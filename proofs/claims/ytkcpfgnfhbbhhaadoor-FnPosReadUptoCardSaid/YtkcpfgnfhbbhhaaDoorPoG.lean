/-
  laws.samePos at two readings of one expression. Conditions: in the statement.
-/
import Derived.Test.YtkcpfgnfhbbhhaaDoorPoF
set_option linter.unusedVariables false
set_option linter.unusedSimpArgs false
namespace Go.Proofs.YtkcpfgnfhbbhhaaDoor.po
open Go.RowKit

theorem bytes_inj {a b : ByteArray} (h : a.data.toList = b.data.toList) : a = b := by
  apply ByteArray.ext
  exact Array.toList_inj.1 h
set_option maxHeartbeats 8000000 in
set_option maxRecDepth 100000 in
theorem same_any : ∀ (T : PT) (W : World) (a0 a1 a2 a3 b0 b1 b2 b3 : Value), PosAt W T [a0, a1, a2, a3] → PosAt W T [b0, b1, b2, b3] → T.bulk ≤ 1048576 → Calls Tryd.prog 10 #[.agg #[a0, a1, a2, a3], .agg #[b0, b1, b2, b3]] W fun e W' => e = .returned (.bool true) ∧ Below W.heap.size W W' := by
  refine PT.ind fun k nm n l ih W a0 a1 a2 a3 b0 b1 b2 b3 ha hb hB => ?_
  obtain ⟨K, N, p, cap, rfl, rfl, h1, h2, h3, h4, hcs, hl⟩ := ha.open
  obtain ⟨K', N', p', cap', hK, hN, _, _, _, _, hcs', hl'⟩ := hb.open
  obtain ⟨rfl, rfl, rfl, rfl⟩ : a0 = .string K ∧ a1 = .string N ∧ a2 = .int .i64 n ∧ a3 = .slice p l.length cap := by simpa using hcs
  obtain ⟨rfl, rfl, rfl, rfl⟩ : b0 = .string K' ∧ b1 = .string N' ∧ b2 = .int .i64 n ∧ b3 = .slice p' l.length cap' := by simpa using hcs'
  obtain rfl := bytes_inj hK
  obtain rfl := bytes_inj hN
  have HI : Hid (∀ x ∈ l, ∀ (W : World) (a0 a1 a2 a3 b0 b1 b2 b3 : Value), PosAt W x [a0, a1, a2, a3] → PosAt W x [b0, b1, b2, b3] → Calls Tryd.prog 10 #[.agg #[a0, a1, a2, a3], .agg #[b0, b1, b2, b3]] W fun e W' => e = .returned (.bool true) ∧ Below W.heap.size W W') := fun x hx W a0 a1 a2 a3 b0 b1 b2 b3 h1 h2 => ih x hx W a0 a1 a2 a3 b0 b1 b2 b3 h1 h2 (kid_bulk hB hx)
  have hm1 : l.length ≤ 1048576 := by rw [PT.bulk] at hB; have := len_bulks l; omega
  have HL := Lib.hid (show ArgsAt W p l from hl)
  have HL' := Lib.hid (show ArgsAt W p' l from hl')
  obtain ⟨m, hm⟩ : ∃ m, m = l.length := ⟨_, rfl⟩
  rw [← hm] at hm1 ⊢
  have HM := Lib.hid hm
  clear ih hl hl' hcs hcs' ha hb hB hm h1 h2 h3 h4 hK hN
  go_enter Tryd.func10, Tryd.ntmps10
  go_wp2_with fail
  obtain ⟨W2, hW2⟩ : ∃ W2, W2 = (W.alloc (.cells #[.string K, .string N, .int .i64 n, .slice p m cap] 24)).alloc (.cells #[.string K, .string N, .int .i64 n, .slice p' m cap'] 24) := ⟨_, rfl⟩
  have HX : Hid (obj W2 W.heap.size #[.string K, .string N, .int .i64 n, .slice p m cap] 24) := by rw [hW2]; exact (heap_alloc_old (W.alloc _) _ (by simp)).trans (heap_alloc_new W _)
  have HY : Hid (obj W2 (W.heap.size + 1) #[.string K, .string N, .int .i64 n, .slice p' m cap'] 24) := by rw [hW2]; exact second_new W _ _ _
  have HB1 : Hid (Below W.heap.size W W2) := by rw [hW2]; exact (below_alloc W _).trans ((below_alloc _ _).mono (below_alloc W _).size)
  rw [← hW2]
  clear hW2
  go_loopw [37] (fun iv wr => ∃ i : Nat, i ≤ m ∧ iv = .int .i64 (i : Int) ∧ Hid (Below W2.heap.size W2 wr)) (fun iv _ => m - (intOf iv).toNat)
  case atStart => exact ⟨0, Nat.zero_le _, rfl, Below.refl _ _⟩
  case round =>
    rename World => wo
    obtain ⟨i, hi, rfl, HO⟩ := hrel
    by_cases hlt : i < m
    · have hz : (i : Int) < (m : Int) := by omega
      have hz0 : (0 : Int) ≤ (i : Int) := by omega
      have hil : i < l.length := by have := HM.out; omega
      obtain ⟨b, o, rfl, hbl, c0, c1, c2, c3, q0, q1, q2, q3, hp⟩ := HL.out i hil
      obtain ⟨b', o', rfl, hbl', d0, d1, d2, d3, q0', q1', q2', q3', hp'⟩ := HL'.out i hil
      have HWD : Hid (Below W.heap.size W wo.drew) := (HB1.out.trans (HO.out.mono HB1.out.size)).drew
      have HC : Hid (Calls Tryd.prog 10 #[.agg #[c0, c1, c2, c3], .agg #[d0, d1, d2, d3]] wo.drew fun e W' => e = .returned (.bool true) ∧ Below wo.drew.heap.size wo.drew W') := HI.out l[i] (List.getElem_mem hil) wo.drew c0 c1 c2 c3 d0 d1 d2 d3 (hp.on HWD.out) (hp'.on HWD.out)
      have HS : Hid (∀ w', Below wo.heap.size wo w' → w'.cell? ⟨W.heap.size, 3, none⟩ = some (.slice (some ⟨b, o, none⟩) m cap) ∧ w'.cell? ⟨W.heap.size + 1, 3, none⟩ = some (.slice (some ⟨b', o', none⟩) m cap') ∧ w'.cell? ⟨b, o + i * 4, none⟩ = some c0 ∧ w'.cell? ⟨b, o + i * 4 + 1, none⟩ = some c1 ∧ w'.cell? ⟨b, o + i * 4 + 2, none⟩ = some c2 ∧ w'.cell? ⟨b, o + i * 4 + 3, none⟩ = some c3 ∧ w'.cell? ⟨b', o' + i * 4, none⟩ = some d0 ∧ w'.cell? ⟨b', o' + i * 4 + 1, none⟩ = some d1 ∧ w'.cell? ⟨b', o' + i * 4 + 2, none⟩ = some d2 ∧ w'.cell? ⟨b', o' + i * 4 + 3, none⟩ = some d3) := fun w' hb => by
        have g1 : Below W2.heap.size W2 w' := HO.out.trans (hb.mono HO.out.size)
        have g2 : Below W.heap.size W w' := HB1.out.trans (g1.mono HB1.out.size)
        exact ⟨(g1.cell (p := ⟨W.heap.size, 3, none⟩) (lt_of_heap HX.out)).trans (cells_of_heap HX.out 3), (g1.cell (p := ⟨W.heap.size + 1, 3, none⟩) (lt_of_heap HY.out)).trans (cells_of_heap HY.out 3), (g2.cell (p := ⟨b, _, none⟩) hbl).trans q0, (g2.cell (p := ⟨b, _, none⟩) hbl).trans q1, (g2.cell (p := ⟨b, _, none⟩) hbl).trans q2, (g2.cell (p := ⟨b, _, none⟩) hbl).trans q3, (g2.cell (p := ⟨b', _, none⟩) hbl').trans q0', (g2.cell (p := ⟨b', _, none⟩) hbl').trans q1', (g2.cell (p := ⟨b', _, none⟩) hbl').trans q2', (g2.cell (p := ⟨b', _, none⟩) hbl').trans q3'⟩
      have hs0 := HS.out _ ((Below.refl _ wo).drew)
      clear q0 q1 q2 q3 q0' q1' q2' q3' hp hp' hbl hbl' hil
      go_wp2_with fail
      go_region_held3 (fun w' => w'.cell? ⟨W.heap.size, 3, none⟩ = some (.slice (some ⟨b, o, none⟩) m cap) ∧ w'.cell? ⟨W.heap.size + 1, 3, none⟩ = some (.slice (some ⟨b', o', none⟩) m cap') ∧ w'.cell? ⟨b, o + i * 4, none⟩ = some c0 ∧ w'.cell? ⟨b, o + i * 4 + 1, none⟩ = some c1 ∧ w'.cell? ⟨b, o + i * 4 + 2, none⟩ = some c2 ∧ w'.cell? ⟨b, o + i * 4 + 3, none⟩ = some c3 ∧ w'.cell? ⟨b', o' + i * 4, none⟩ = some d0 ∧ w'.cell? ⟨b', o' + i * 4 + 1, none⟩ = some d1 ∧ w'.cell? ⟨b', o' + i * 4 + 2, none⟩ = some d2 ∧ w'.cell? ⟨b', o' + i * 4 + 3, none⟩ = some d3)
        (first | assumption | exact HS.out _ HB4.out)
        (first | (go_at_call 10; refine HC.out.mono ?_; rintro e w4 ⟨rfl, hb4⟩; have HB4 : Hid (Below wo.heap.size wo w4) := (Below.refl _ wo).drew.trans hb4; clear hb4))
      go_wp2_with fail
      exact ⟨⟨i + 1, by omega, by go_num, HO.out.trans (HB4.out.mono HO.out.size)⟩, by simp [intOf]; omega⟩
    · have hz : ¬ (i : Int) < (m : Int) := by omega
      go_wp2_with fail
      go_ret
      exact ⟨rfl, HB1.out.trans (HO.out.mono HB1.out.size)⟩
end Go.Proofs.YtkcpfgnfhbbhhaaDoor.po
