/-
  Expressions of the language of positions in memory, as the law's argument lies there. Conditions: of each lemma, in its statement.
-/
import Derived.Test.YtkcpfgnfhbbhhaaDoorPosG
import Derived.Test.YtkcpfgnfhbbhhaaDoorRows
import Derived.WalkKit
import Derived.ChangeArms
import Derived.Below
import Derived.Lib.Hide
import Derived.Lib.Strings
set_option linter.unusedVariables false
namespace Go.Proofs.YtkcpfgnfhbbhhaaDoor.po
open Go.RowKit

theorem cells_of_heap {w : World} {b : Nat} {cs : Array Value} {t : TypeId} (h : w.heap[b]? = some (.cells cs t (0, 0))) (i : Nat) : w.cell? ⟨b, i, none⟩ = cs[i]? := cell_of_row w b i cs t (0, 0) h
theorem lt_of_heap {w : World} {b : Nat} {o : Obj} (h : w.heap[b]? = some o) : b < w.heap.size := by
  rcases Nat.lt_or_ge b w.heap.size with h1 | h1
  · exact h1
  · rw [Array.getElem?_eq_none h1] at h
    cases h
theorem lt_of_cell {w : World} {b o : Nat} {s : Option Nat} {v : Value} (h : w.cell? ⟨b, o, s⟩ = some v) : b < w.heap.size := by
  rcases Nat.lt_or_ge b w.heap.size with h1 | h1
  · exact h1
  · simp [World.cell?, Array.getElem?_eq_none h1] at h
/-- An expression's four cells, and its arguments behind them. -/
inductive PosAt (W : World) : PT → List Value → Prop where
  | mk (K N : ByteArray) (n : Int) (l : List PT) (p : Option Addr) (cap : Nat) (css : List (List Value)) : K.size ≤ maxLen → N.size ≤ maxLen → (-9223372036854775808 ≤ n ∧ n ≤ 9223372036854775807) → l.length ≤ maxLen → css.length = l.length →
      (∀ i (h : i < l.length) (h2 : i < css.length), PosAt W l[i] css[i]) →
      (∀ i (h2 : i < css.length), ∃ b o, p = some ⟨b, o, none⟩ ∧ b < W.heap.size ∧ css[i].length = 4 ∧ ∀ j, j < 4 → W.cell? ⟨b, o + i * 4 + j, none⟩ = css[i][j]?) →
      PosAt W (.mk K.data.toList N.data.toList n l) [.string K, .string N, .int .i64 n, .slice p l.length cap]
theorem PosAt.on {W W' : World} (hb : Below W.heap.size W W') {T : PT} {cs : List Value} (h : PosAt W T cs) : PosAt W' T cs := by
  induction h with
  | mk K N n l p cap css h1 h2 h3 h4 h5 h6 h7 ih =>
    refine .mk K N n l p cap css h1 h2 h3 h4 h5 ih (fun i hi => ?_)
    obtain ⟨b, o, e, hlt, hl, hc⟩ := h7 i hi
    exact ⟨b, o, e, Nat.lt_of_lt_of_le hlt hb.size, hl, fun j hj => (hb.cell (p := ⟨b, _, none⟩) hlt).trans (hc j hj)⟩
mutual
/-- Values and letters. -/
def PT.bulk : PT → Nat
  | .mk k nm _ l => k.length + nm.length + 1 + PT.bulks l
def PT.bulks : List PT → Nat
  | [] => 0
  | x :: r => x.bulk + PT.bulks r
end
theorem choose_list {P : Nat → PT → Prop} : ∀ n, (∀ i, i < n → ∃ t, P i t) → ∃ l : List PT, l.length = n ∧ ∀ i (h : i < l.length), P i l[i]
  | 0, _ => ⟨[], rfl, fun i h => by simp at h⟩
  | n + 1, h => by
    obtain ⟨l, h1, h2⟩ := choose_list n (fun i hi => h i (by omega))
    obtain ⟨t, ht⟩ := h n (by omega)
    refine ⟨l ++ [t], by simp [h1], fun i hi => ?_⟩
    rcases Nat.lt_or_ge i l.length with hl | hl
    · rw [List.getElem_append_left hl]
      exact h2 i hl
    · have hi' : i < l.length + 1 := by simpa using hi
      have e : i = l.length := by omega
      subst e
      rw [List.getElem_append_right (Nat.le_refl _)]
      simpa [h1] using ht
theorem choose_cells {P : Nat → List Value → Prop} : ∀ n, (∀ i, i < n → ∃ t, P i t) → ∃ l : List (List Value), l.length = n ∧ ∀ i (h : i < l.length), P i l[i]
  | 0, _ => ⟨[], rfl, fun i h => by simp at h⟩
  | n + 1, h => by
    obtain ⟨l, h1, h2⟩ := choose_cells n (fun i hi => h i (by omega))
    obtain ⟨t, ht⟩ := h n (by omega)
    refine ⟨l ++ [t], by simp [h1], fun i hi => ?_⟩
    rcases Nat.lt_or_ge i l.length with hl | hl
    · rw [List.getElem_append_left hl]
      exact h2 i hl
    · have hi' : i < l.length + 1 := by simpa using hi
      have e : i = l.length := by omega
      subst e
      rw [List.getElem_append_right (Nat.le_refl _)]
      simpa [h1] using ht
theorem bulks_le {H : Type} : ∀ (l : List PT) (xs : List (DataW H)), l.length = xs.length → (∀ i (h : i < l.length) (h2 : i < xs.length), l[i].bulk ≤ Rows.uptoBulk xs[i]) → PT.bulks l ≤ Rows.uptoBulkAll xs
  | [], [], _, _ => by simp [PT.bulks, Rows.uptoBulkAll]
  | t :: r, x :: xs, hl, h => by
    have h1 := h 0 (by simp) (by simp)
    have h2 := bulks_le r xs (by simpa using hl) (fun i hi hi2 => h (i + 1) (by simpa using hi) (by simpa using hi2))
    simp only [List.getElem_cons_zero] at h1
    rw [PT.bulks, Rows.uptoBulkAll]
    omega
  | [], _ :: _, hl, _ => by simp at hl
  | _ :: _, [], hl, _ => by simp at hl
theorem below_alloc (W : World) (o : Obj) : Below W.heap.size W (W.alloc o) := (Below.refl _ W).alloc (Nat.le_refl _) o
theorem add_none (b o k : Nat) : (⟨b, o, none⟩ : Addr).add k = ⟨b, o + k, none⟩ := by
  unfold Addr.add
  split <;> simp_all
theorem cells24 : Tryd.prog.cellsOf 24 = 4 := by kernel_rfl
set_option maxRecDepth 100000 in
theorem open_PT {H : Type} {enc : TypeId × Value → H} {w : World} {base : Nat} {sp : Nat → Bool} {hd : Bool} : ∀ (fuel : Nat) (cs : List Value) (x : DataW H × List MemPlace), DataW.trod enc Tryd.prog w base sp hd fuel 24 cs = some x →
    ∃ T : PT, PosAt w T cs ∧ T.bulk ≤ Rows.uptoBulk x.1 := by
  intro fuel
  induction fuel using Nat.strongRecOn with
  | _ fuel ih =>
    intro cs x h
    obtain ⟨xs, n, rfl, rfl, hlen, hxs, hf⟩ := DataW.trod_struct Tryd.underlying24 h
    rw [cells24] at hlen
    have hx4 : xs.length = 4 := hxs
    obtain ⟨c0, c1, c2, c3, rfl⟩ : ∃ c0 c1 c2 c3, cs = [c0, c1, c2, c3] := by
      match cs, hlen with
      | [a, b, c, d], _ => exact ⟨a, b, c, d, rfl⟩
    obtain ⟨x0, x1, x2, x3, rfl⟩ : ∃ x0 x1 x2 x3, xs = [x0, x1, x2, x3] := by
      match xs, hx4 with
      | [a, b, c, d], _ => exact ⟨a, b, c, d, rfl⟩
    have s1 : Tryd.prog.cellsOf 9 = 1 := by kernel_rfl
    have s2 : Tryd.prog.cellsOf 3 = 1 := by kernel_rfl
    have s3 : Tryd.prog.cellsOf 22 = 1 := by kernel_rfl
    have f0 : DataW.trod enc Tryd.prog w base sp hd n 9 ((([c0, c1, c2, c3] : List Value).drop 0).take (Tryd.prog.cellsOf 9)) = [x0, x1, x2, x3][0]? := hf 0 _ rfl
    rw [s1] at f0
    have f1 : DataW.trod enc Tryd.prog w base sp hd n 9 ((([c0, c1, c2, c3] : List Value).drop 1).take (Tryd.prog.cellsOf 9)) = [x0, x1, x2, x3][1]? := hf 1 _ rfl
    rw [s1] at f1
    have f2 : DataW.trod enc Tryd.prog w base sp hd n 3 ((([c0, c1, c2, c3] : List Value).drop 2).take (Tryd.prog.cellsOf 3)) = [x0, x1, x2, x3][2]? := hf 2 _ rfl
    rw [s2] at f2
    have f3 : DataW.trod enc Tryd.prog w base sp hd n 22 ((([c0, c1, c2, c3] : List Value).drop 3).take (Tryd.prog.cellsOf 22)) = [x0, x1, x2, x3][3]? := hf 3 _ rfl
    rw [s3] at f3
    simp only [List.drop_zero, List.drop_succ_cons, List.take_succ_cons, List.take_zero, List.getElem?_cons_zero, List.getElem?_cons_succ] at f0 f1 f2 f3
    obtain ⟨K, e0, rfl, hK⟩ := DataW.trod_string Tryd.underlying9 f0
    obtain ⟨N, e1, rfl, hN⟩ := DataW.trod_string Tryd.underlying9 f1
    obtain ⟨m, e2, rfl, hm⟩ := DataW.trod_int Tryd.underlying3 f2
    obtain rfl : c0 = .string K := by simpa using e0
    obtain rfl : c1 = .string N := by simpa using e1
    obtain rfl : c2 = .int .i64 m := by simpa using e2
    have hm' : -9223372036854775808 ≤ m ∧ m ≤ 9223372036854775807 := by simpa [Lit.wf, IntKind.min, IntKind.max, IntKind.signed, IntKind.bits] using hm
    rcases DataW.trod_slice Tryd.underlying22 f3 with ⟨e3, rfl⟩ | ⟨a, len, cap, elems, rest, n', rfl, e3, rfl, hb, hl, hc, hel, hall, _, _⟩
    · obtain rfl : c3 = .slice none 0 0 := by simpa using e3
      refine ⟨.mk K.data.toList N.data.toList m [], .mk K N m [] none 0 [] hK hN hm' (Nat.zero_le _) rfl (fun i h => by simp at h) (fun i h => by simp at h), ?_⟩
      simp only [PT.bulk, PT.bulks, List.map_cons, List.map_nil, Rows.uptoBulk, Rows.uptoBulkAll]
      omega
    · obtain rfl : c3 = .slice (some a) len cap := by simpa using e3
      rw [cells24] at hall
      have hspot : 0 < len → a.spot = none := by
        intro h0
        have h1 := hall 0 h0
        rw [List.getElem?_eq_getElem (by omega)] at h1
        obtain ⟨cs', h2, h3⟩ := Option.bind_eq_some_iff.1 h1
        obtain ⟨_, h6, h7⟩ := World.cells?_some h2
        have h8 := h7 0 (by omega)
        rw [List.getElem?_eq_getElem (by omega)] at h8
        exact World.cell?_spot h8
      have key : ∀ i, i < len → ∃ T : PT, ∃ cs' : List Value, (∃ b o, a = ⟨b, o, none⟩ ∧ b < w.heap.size ∧ cs'.length = 4 ∧ ∀ j, j < 4 → w.cell? ⟨b, o + i * 4 + j, none⟩ = cs'[j]?) ∧ PosAt w T cs' ∧ ∀ h : i < elems.length, T.bulk ≤ Rows.uptoBulk elems[i].1 := by
        intro i hi
        have h1 := hall i hi
        rw [List.getElem?_eq_getElem (by omega)] at h1
        obtain ⟨cs', h2, h3⟩ := Option.bind_eq_some_iff.1 h1
        obtain ⟨T, h4, h5⟩ := ih n' (by omega) cs' _ h3
        refine ⟨T, cs', ?_, h4, fun _ => h5⟩
        obtain ⟨_, h6, h7⟩ := World.cells?_some h2
        obtain ⟨b, o, sp⟩ := a
        have hs : sp = none := hspot (by omega)
        subst hs
        have h8 : ∀ j, j < 4 → w.cell? ⟨b, o + i * 4 + j, none⟩ = cs'[j]? := fun j hj => by
          have h9 := h7 j hj
          rw [add_none, add_none] at h9
          exact h9
        refine ⟨b, o, rfl, ?_, h6, h8⟩
        have h9 := h8 0 (by omega)
        rw [List.getElem?_eq_getElem (by omega)] at h9
        exact lt_of_cell h9
      obtain ⟨l, hl1, hl2⟩ := choose_list len key
      obtain ⟨css, hc1, hc2⟩ := choose_cells (P := fun i cs' => ∀ h : i < l.length, (∃ b o, a = ⟨b, o, none⟩ ∧ b < w.heap.size ∧ cs'.length = 4 ∧ ∀ j, j < 4 → w.cell? ⟨b, o + i * 4 + j, none⟩ = cs'[j]?) ∧ PosAt w l[i] cs' ∧ ∀ h : i < elems.length, l[i].bulk ≤ Rows.uptoBulk elems[i].1) len (fun i hi => by
        obtain ⟨cs', h⟩ := hl2 i (by omega)
        exact ⟨cs', fun _ => h⟩)
      subst hl1
      refine ⟨.mk K.data.toList N.data.toList m l, .mk K N m l (some a) cap css hK hN hm' (by omega) hc1 (fun i h h2 => (hc2 i h2 h).2.1) (fun i h2 => ?_), ?_⟩
      · obtain ⟨b, o, e, h3⟩ := (hc2 i h2 (by omega)).1
        exact ⟨b, o, by rw [e], h3⟩
      · have hbk := bulks_le l (elems.map (·.1)) (by rw [List.length_map, hel]) (fun i h h2 => by
          rw [List.getElem_map]
          exact (hc2 i (by omega) h).2.2 (by simpa using h2))
        simp only [PT.bulk, List.map_cons, List.map_nil, Rows.uptoBulk, Rows.uptoBulkAll]
        omega
end Go.Proofs.YtkcpfgnfhbbhhaaDoor.po
