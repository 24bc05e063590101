/-
  impl.posOf: rows of arguments. Conditions: in the statements.
-/
import Derived.Test.YtkcpfgnfhbbhhaaDoorPoB
import Derived.Deep.RegionHeld3
set_option linter.unusedVariables false
set_option linter.unusedSimpArgs false
namespace Go.Proofs.YtkcpfgnfhbbhhaaDoor.po
open Go.RowKit

theorem flat_get : ∀ (css : List (List Value)) (i j : Nat), (∀ c ∈ css, c.length = 4) → j < 4 → ∀ h : i < css.length, css.flatten[i * 4 + j]? = css[i][j]?
  | [], i, j, _, _, h => by simp at h
  | c :: r, 0, j, hc, hj, _ => by
    have := hc c (by simp)
    simp only [List.flatten_cons, Nat.zero_mul, Nat.zero_add, List.getElem_cons_zero]
    rw [List.getElem?_append_left (by omega)]
  | c :: r, i + 1, j, hc, hj, h => by
    have h4 := hc c (by simp)
    simp only [List.flatten_cons, List.getElem_cons_succ]
    rw [List.getElem?_append_right (by rw [h4]; omega), show (i + 1) * 4 + j - c.length = i * 4 + j by rw [h4]; omega]
    exact flat_get r i j (fun x hx => hc x (by simp [hx])) hj (by simpa using h)
/-- Arguments in a row of cells. -/
theorem row_pos {P : Nat → Prop} {W : World} {l : List PT} {css : List (List Value)} {s : Nat} (K : ByteArray) (hK : K.size ≤ maxLen) (hl : l.length ≤ maxLen) (hc : css.length = l.length) (h4 : ∀ c ∈ css, c.length = 4) (hp : ∀ i (h : i < l.length) (h2 : i < css.length), PosP P W l[i] css[i]) (hs : P s) (hlt : s < W.heap.size) (hcell : ∀ k, k < l.length * 4 → W.cell? ⟨s, k, none⟩ = css.flatten[k]?) (cap : Nat) :
    PosP P W (.mk K.data.toList [] 0 l) [.string K, .string ⟨#[]⟩, .int .i64 0, .slice (some ⟨s, 0, none⟩) l.length cap] := by
  refine .mk K ⟨#[]⟩ 0 l (some ⟨s, 0, none⟩) cap css hK (by decide) (by decide) hl hc hp (fun i h2 => ⟨s, 0, rfl, hs, hlt, h4 _ (List.getElem_mem h2), fun j hj => ?_⟩)
  rw [Nat.zero_add, hcell _ (by omega)]
  exact flat_get css i j h4 hj h2
theorem grown_drew' {a b : World} {row : Option Nat} (h : a.grownBy b row) : a.grownBy b.drew row := ⟨h.os, h.tape, h.output, h.size, h.block⟩
/-- A child's reading kept to the end. -/
theorem kid_end {w0 w2 W : World} {r : Nat} {a : PT} {cs : List Value} {u : World} (h : PosP (From u) w2 a cs) (hg : w2.grownBy W (some r)) (hu : r < u.heap.size) (hw : w0.heap.size ≤ r) : PosP (From w0) W a cs :=
  (h.grown hg fun b' _ hb e => by
    have h1 : u.heap.size ≤ b' := hb
    have h2 : b' = r := by simpa using e
    omega).mono fun b' _ hb => by
      have h1 : u.heap.size ≤ b' := hb
      show w0.heap.size ≤ b'
      omega
end Go.Proofs.YtkcpfgnfhbbhhaaDoor.po
