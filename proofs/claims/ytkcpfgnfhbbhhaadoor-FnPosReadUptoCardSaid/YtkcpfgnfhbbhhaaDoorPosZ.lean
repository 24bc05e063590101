/-
  How many nodes an expression has: laws.posSize; the size tests. Conditions: in the statements.
-/
import Derived.Test.YtkcpfgnfhbbhhaaDoorPosM
set_option linter.unusedVariables false
set_option linter.unusedSimpArgs false
namespace Go.Proofs.YtkcpfgnfhbbhhaaDoor.po
open Go.RowKit

theorem size_le_bulk : ∀ T : PT, T.size ≤ T.bulk := by
  have : ∀ T : PT, T.size ≤ T.bulk := by
    refine PT.ind fun k nm i l ih => ?_
    rw [PT.size, PT.bulk]
    have key : ∀ l : List PT, (∀ x ∈ l, x.size ≤ x.bulk) → PT.sizes l ≤ PT.bulks l := by
      intro l
      induction l with
      | nil => intro _; simp [PT.sizes, PT.bulks]
      | cons x r ih2 =>
        intro h
        have h1 := h x List.mem_cons_self
        have h2 := ih2 (fun y hy => h y (List.mem_cons_of_mem _ hy))
        rw [PT.sizes, PT.bulks]
        omega
    have := key l ih
    omega
  exact this
theorem sizes_take (l : List PT) (i : Nat) (h : i < l.length) : PT.sizes (l.take (i + 1)) = PT.sizes (l.take i) + l[i].size := by
  induction l generalizing i with
  | nil => simp at h
  | cons x r ih =>
    cases i with
    | zero => simp [PT.sizes]
    | succ i =>
      have := ih i (by simpa using h)
      simp only [List.take_succ_cons, PT.sizes, List.getElem_cons_succ]
      omega
theorem sizes_le (l : List PT) (i : Nat) : PT.sizes (l.take i) ≤ PT.sizes l := by
  induction l generalizing i with
  | nil => simp [PT.sizes]
  | cons x r ih =>
    cases i with
    | zero => simp [PT.sizes]
    | succ i =>
      have := ih i
      simp only [List.take_succ_cons, PT.sizes]
      omega
theorem len_sizes (l : List PT) : l.length ≤ PT.sizes l := by
  induction l with
  | nil => simp
  | cons x r ih =>
    have : 1 ≤ x.size := by cases x; rw [PT.size]; omega
    simp only [List.length_cons, PT.sizes]
    omega
/-- What is known of an expression's arguments. -/
theorem PosAt.open {W : World} {k nm : Bs} {n : Int} {l : List PT} {cs : List Value} (h : PosAt W (.mk k nm n l) cs) :
    ∃ (K N : ByteArray) (p : Option Addr) (cap : Nat), k = K.data.toList ∧ nm = N.data.toList ∧ K.size ≤ maxLen ∧ N.size ≤ maxLen ∧ (-9223372036854775808 ≤ n ∧ n ≤ 9223372036854775807) ∧ l.length ≤ maxLen ∧ cs = [.string K, .string N, .int .i64 n, .slice p l.length cap] ∧
      ∀ i (h : i < l.length), ∃ b o, p = some ⟨b, o, none⟩ ∧ b < W.heap.size ∧ ∃ c0 c1 c2 c3, W.cell? ⟨b, o + i * 4, none⟩ = some c0 ∧ W.cell? ⟨b, o + i * 4 + 1, none⟩ = some c1 ∧ W.cell? ⟨b, o + i * 4 + 2, none⟩ = some c2 ∧ W.cell? ⟨b, o + i * 4 + 3, none⟩ = some c3 ∧ PosAt W l[i] [c0, c1, c2, c3] := by
  cases h with
  | mk K N n l p cap css h1 h2 h3 h4 h5 h6 h7 =>
    refine ⟨K, N, p, cap, rfl, rfl, h1, h2, h3, h4, rfl, fun i hi => ?_⟩
    have hi2 : i < css.length := by omega
    obtain ⟨b, o, e, hlt, hl, hc⟩ := h7 i hi2
    have hp := h6 i hi hi2
    obtain ⟨c0, c1, c2, c3, e4⟩ : ∃ c0 c1 c2 c3, css[i] = [c0, c1, c2, c3] := by
      match css[i], hl with
      | [a, b, c, d], _ => exact ⟨a, b, c, d, rfl⟩
    rw [e4] at hp hc
    exact ⟨b, o, e, hlt, c0, c1, c2, c3, hc 0 (by omega), hc 1 (by omega), hc 2 (by omega), hc 3 (by omega), hp⟩

set_option maxHeartbeats 2000000 in
set_option maxRecDepth 100000 in
theorem posSize_any : ∀ (T : PT) (W : World) (c0 c1 c2 c3 : Value), PosAt W T [c0, c1, c2, c3] → T.size ≤ 1048576 → Calls Tryd.prog 5 #[.agg #[c0, c1, c2, c3]] W fun e W' => e = .returned (.int .i64 (T.size : Int)) ∧ Below W.heap.size W W' := by
  refine PT.ind fun k nm n l ih W c0 c1 c2 c3 h hb => ?_
  obtain ⟨K, N, p, cap, rfl, rfl, h1, h2, h3, h4, hcs, hl⟩ := h.open
  rw [PT.size] at hb ⊢
  obtain ⟨rfl, rfl, rfl, rfl⟩ : c0 = .string K ∧ c1 = .string N ∧ c2 = .int .i64 n ∧ c3 = .slice p l.length cap := by simpa using hcs
  have HI := Lib.hid ih
  have HL := Lib.hid hl
  have hlen := len_sizes l
  have HB := Lib.hid hb
  obtain ⟨m, hm⟩ : ∃ m, m = l.length := ⟨_, rfl⟩
  rw [← hm]
  have hm1 : m ≤ 1048576 := by omega
  have HM := Lib.hid hm
  clear ih hl hcs h hlen hm h4 hb
  go_enter Tryd.func5, Tryd.ntmps5
  go_wp2_with fail
  obtain ⟨W1, hW1⟩ : ∃ W1, W1 = W.alloc (.cells #[.string K, .string N, .int .i64 n, .slice p m cap] 24) := ⟨_, rfl⟩
  have HX : Hid (W1.heap[W.heap.size]? = some (.cells #[.string K, .string N, .int .i64 n, .slice p m cap] 24 (0, 0))) := by rw [hW1]; exact heap_alloc_new W _
  have HB1 : Hid (Below W.heap.size W W1) := by rw [hW1]; exact below_alloc W _
  rw [← hW1]
  clear hW1
  go_loopw [3, 8] (fun sv iv wr => ∃ i : Nat, i ≤ m ∧ iv = .int .i64 (i : Int) ∧ sv = .int .i64 ((1 + PT.sizes (l.take i) : Nat) : Int) ∧ Hid (Below W1.heap.size W1 wr)) (fun _ iv _ => m - (intOf iv).toNat)
  case atStart => exact ⟨0, Nat.zero_le _, rfl, by simp [PT.sizes], Below.refl _ _⟩
  case round =>
    rename World => wo
    obtain ⟨i, hi, rfl, rfl, HO⟩ := hrel
    by_cases hlt : i < m
    · have hz : (i : Int) < (m : Int) := by omega
      have hil : i < l.length := by have := HM.out; omega
      obtain ⟨b, o, rfl, hbl, c0, c1, c2, c3, q0, q1, q2, q3, hp⟩ := HL.out i hil
      have HW := Lib.hid (HB1.out.trans (HO.out.mono HB1.out.size))
      have r0 := (HW.out.cell (p := ⟨b, _, none⟩) hbl).trans q0
      have r1 := (HW.out.cell (p := ⟨b, _, none⟩) hbl).trans q1
      have r2 := (HW.out.cell (p := ⟨b, _, none⟩) hbl).trans q2
      have r3 := (HW.out.cell (p := ⟨b, _, none⟩) hbl).trans q3
      have hX := (HO.out.block W.heap.size (lt_of_heap HX.out)).trans HX.out
      have x3 := cells_of_heap hX 3
      have HP := Lib.hid (hp.on HW.out)
      have hst := sizes_take l i hil
      have hle := sizes_le l (i + 1)
      have hbd := HB.out
      have hs1 : l[i].size ≤ 1048576 := by omega
      have HS := Lib.hid hs1
      obtain ⟨a, ha⟩ : ∃ a, a = PT.sizes (l.take i) := ⟨_, rfl⟩
      obtain ⟨c, hc⟩ : ∃ c, c = l[i].size := ⟨_, rfl⟩
      have HST : Hid (PT.sizes (l.take (i + 1)) = a + c) := by show _ = _; rw [ha, hc]; exact hst
      rw [← ha]
      have HC := Lib.hid hc
      have hac : 1 + a + c ≤ 1048577 := by rw [ha, hc]; omega
      have hac2 : ((1 + a : Nat) : Int) + (c : Int) ≤ 1048577 := by omega
      clear q0 q1 q2 q3 hp hbl hX hst hle hbd hs1 ha hc
      go_wp2_with (first | (go_at_call 5; refine (HI.out l[i] (List.getElem_mem hil) wo c0 c1 c2 c3 HP.out HS.out).mono ?_; rintro e w2 ⟨rfl, hb2⟩; have HB2 := Lib.hid hb2; rw [← HC.out]; clear hb2))
      exact ⟨⟨i + 1, by omega, by go_num, by rw [HST.out]; go_num, HO.out.trans (HB2.out.mono HO.out.size)⟩, by simp [intOf]; omega⟩
    · have hz : ¬ (i : Int) < (m : Int) := by omega
      have him : i = l.length := by have := HM.out; omega
      have e1 : l.take i = l := by rw [him, List.take_length]
      rw [e1]
      go_wp2_with fail
      go_ret
      exact ⟨by congr 2, HB1.out.trans (HO.out.mono HB1.out.size)⟩
end Go.Proofs.YtkcpfgnfhbbhhaaDoor.po
