/-
  impl.posOf at choices of places and of nodes. Conditions: in the statements.
-/
import Derived.Test.YtkcpfgnfhbbhhaaDoorPoC
import Derived.Test.YtkcpfgnfhbbhhaaDoorPsK
import Derived.Deep.RegionLaw
import Derived.Deep.AppendLies
set_option linter.unusedVariables false
set_option linter.unusedSimpArgs false
namespace Go.Proofs.YtkcpfgnfhbbhhaaDoor.po
open Go.RowKit

theorem exprInfo : (Tryd.prog.info? 24).map (fun i => (i.zero, i.size, i.bytes)) = some (some (.agg #[.string ⟨#[]⟩, .string ⟨#[]⟩, .int .i64 0, .slice none 0 0]), 4, 64) := by kernel_rfl
theorem PosP.one {P : Nat → Prop} {W : World} {T : PT} {cs : List Value} (h : PosP P W T cs) : ∀ u ∈ cs, u.oneCell' = true := by
  cases h with
  | mk K N n l p cap css h1 h2 h3 h4 h5 h6 h7 => simp [Value.oneCell']
/-- Where posOf stands in its loop. -/
structure PLoop (w wr : World) (K : ByteArray) (l : List PT) (v : Value) (i : Nat) (css : List (List Value)) : Prop where
  res : obj wr w.heap.size #[.string ⟨#[]⟩, .string ⟨#[]⟩, .int .i64 0, .slice none 0 0] 24
  xo : obj wr (w.heap.size + 1) #[.string K, .string ⟨#[]⟩, .int .i64 0, v] 24
  row : wr.ownsRow (w.heap.size + 2) 24 4 v i css.flatten
  len : css.length = i
  four : ∀ c ∈ css, c.length = 4
  pos : ∀ j (h : j < l.length) (h2 : j < css.length), PosP (Off (w.heap.size + 2) v) wr l[j] css[j]
  below : Below w.heap.size w wr
  size : w.heap.size + 2 ≤ wr.heap.size
theorem own_lt4 {W : World} {base : Nat} {e : TypeId} {size : Nat} {v : Value} {n : Nat} {xs : List Value} (h : W.ownsRow base e size v n xs) : ∀ g, v.ownBlock = some g → base ≤ g ∧ g < W.heap.size := by
  intro g hg
  obtain ⟨h1, ⟨rfl, _⟩ | ⟨g', cap, cur, rfl, h4, h5, h6⟩⟩ := h
  · cases hg
  · have e : g' = g := by simpa [Value.ownBlock] using hg
    subst e
    exact ⟨h4, lt_of_heap h5⟩
theorem own_below {W W' : World} {base : Nat} {e : TypeId} {size : Nat} {v : Value} {n : Nat} {xs : List Value} (h : W.ownsRow base e size v n xs) (hb : Below W.heap.size W W') : W'.ownsRow base e size v n xs := by
  obtain ⟨h1, h2 | ⟨g, cap, cur, h3, h4, h5, h6⟩⟩ := h
  · exact ⟨h1, .inl h2⟩
  · exact ⟨h1, .inr ⟨g, cap, cur, h3, h4, (hb.block g (lt_of_heap h5)).trans h5, h6⟩⟩
theorem own_set {W : World} {base : Nat} {e : TypeId} {size : Nat} {v : Value} {n : Nat} {xs : List Value} (h : W.ownsRow base e size v n xs) (x k : Nat) (u : Value) (hx : x < base) : (W.setCell ⟨x, k, none⟩ u).ownsRow base e size v n xs := by
  obtain ⟨h1, h2 | ⟨g, cap, cur, h3, h4, h5, h6⟩⟩ := h
  · exact ⟨h1, .inl h2⟩
  · exact ⟨h1, .inr ⟨g, cap, cur, h3, h4, ((grown_set (grown_refl W (some x)) k u).block g (lt_of_heap h5) (by simp; omega)).trans h5, h6⟩⟩
theorem PLoop.next {w wr w2 w4 : World} {K : ByteArray} {l : List PT} {v : Value} {i : Nat} {css : List (List Value)} {c0 c1 c2 c3 : Value} {g cap : Nat} {hi : i < l.length} (h : PLoop w wr K l v i css) (hb2 : Below wr.heap.size wr w2) (hp : PosP (From wr) w2 l[i] [c0, c1, c2, c3])
    (hr : w4.ownsRow (w.heap.size + 2) 24 4 (.slice (some ⟨g, 0, none⟩) (i + 1) cap) (i + 1) (css.flatten ++ [c0, c1, c2, c3])) (hg4 : (w2.alloc (.cells #[c0, c1, c2, c3] 24)).grownBy w4 v.ownBlock) (hb : v.ownBlock = some g ∨ g = w2.heap.size + 1) :
    PLoop w (w4.setCell ⟨w.heap.size + 1, 3, none⟩ (.slice (some ⟨g, 0, none⟩) (i + 1) cap)) K l (.slice (some ⟨g, 0, none⟩) (i + 1) cap) (i + 1) (css ++ [[c0, c1, c2, c3]]) := by
  have hb3 : Below wr.heap.size wr (w2.alloc (.cells #[c0, c1, c2, c3] 24)) := hb2.trans ((below_alloc w2 _).mono hb2.size)
  have hsz := h.size
  have hs3 := hb3.size
  have hoff : ∀ g', v.ownBlock = some g' → w.heap.size + 2 ≤ g' := fun g' e => (own_lt4 h.row g' e).1
  have hk4 : ∀ b, b < wr.heap.size → (∀ g', v.ownBlock = some g' → g' ≠ b) → w4.heap[b]? = wr.heap[b]? := fun b hlt hne => (hg4.block b (by omega) (fun e => hne b e.symm rfl)).trans (hb3.block b hlt)
  have hset := grown_set (grown_refl w4 (some (w.heap.size + 1))) 3 (.slice (some ⟨g, 0, none⟩) (i + 1) cap)
  have hs4 := hg4.size
  have hkeep : ∀ {x : PT} {cs : List Value}, PosP (Off (w.heap.size + 2) v) (w2.alloc (.cells #[c0, c1, c2, c3] 24)) x cs → PosP (Off (w.heap.size + 2) (.slice (some ⟨g, 0, none⟩) (i + 1) cap)) (w4.setCell ⟨w.heap.size + 1, 3, none⟩ (.slice (some ⟨g, 0, none⟩) (i + 1) cap)) x cs := fun {x cs} hx => by
    have h5 : PosP (fun b => Off (w.heap.size + 2) v b ∧ Off (w.heap.size + 2) (.slice (some ⟨g, 0, none⟩) (i + 1) cap) b) (w2.alloc (.cells #[c0, c1, c2, c3] 24)) x cs := hx.mono fun b hlt hb' => ⟨hb', hb'.1, fun e => by
      have e2 : b = g := by simpa [Value.ownBlock] using e
      rcases hb with hb | hb
      · exact hb'.2 (by rw [e2]; exact hb.symm)
      · simp at hlt
        omega⟩
    exact ((h5.grown hg4 fun b _ hb' => hb'.1.2).mono fun b _ hb' => hb'.2).grown hset fun b _ hb' e => by
      have h6 := hb'.1
      have h7 : b = w.heap.size + 1 := by simpa using e
      omega
  refine ⟨?_, ?_, ?_, by simp [h.len], fun c hc => ?_, fun j hj h2 => ?_, ?_, ?_⟩
  · exact ((hset.block w.heap.size (by omega) (by simp)).trans (hk4 w.heap.size (by omega) fun g' e => by have := hoff g' e; omega)).trans h.res
  · have e4 : w4.heap[w.heap.size + 1]? = some (.cells #[.string K, .string ⟨#[]⟩, .int .i64 0, v] 24 (0, 0)) := (hk4 (w.heap.size + 1) (by omega) fun g' e => by have := hoff g' e; omega).trans h.xo
    exact set_of_heap e4 3 _
  · have := own_set hr (w.heap.size + 1) 3 (.slice (some ⟨g, 0, none⟩) (i + 1) cap) (by omega)
    simpa using this
  · rcases List.mem_append.1 hc with hc | hc
    · exact h.four c hc
    · rw [List.mem_singleton.1 hc]
      rfl
  · have hlen := h.len
    rcases Nat.lt_or_ge j css.length with hlt | hge
    · rw [List.getElem_append_left hlt]
      exact hkeep ((h.pos j hj hlt).grown (grown_below hb3 none) fun b _ _ e => by cases e)
    · have e : j = i := by simp at h2; omega
      subst e
      rw [List.getElem_append_right (by omega)]
      simp only [hlen, Nat.sub_self, List.getElem_cons_zero]
      refine hkeep ((hp.mono fun b hlt hb' => (⟨?_, fun e => ?_⟩ : Off (w.heap.size + 2) v b)).grown (World.grownBy_alloc w2 _ none) fun b _ _ e => by cases e)
      · have h6 : wr.heap.size ≤ b := hb'
        omega
      · have h6 : wr.heap.size ≤ b := hb'
        have h7 := own_lt4 h.row b e.symm
        omega
  · refine below_row (r := w.heap.size + 1) ?_ hset (by omega)
    have hb4 : ∀ b, b < w.heap.size → w4.heap[b]? = wr.heap[b]? := fun b hlt => hk4 b (by omega) fun g' e => by have := hoff g' e; omega
    exact ⟨hg4.os.trans (hb3.os.trans h.below.os), hg4.tape.trans (hb3.tape.trans h.below.tape), hg4.output.trans (hb3.output.trans h.below.output), by omega, fun b hlt => (hb4 b hlt).trans (h.below.block b hlt)⟩
  · have := hset.size
    omega
theorem PLoop.at4 {w wr w2 w4 : World} {K : ByteArray} {l : List PT} {v : Value} {i : Nat} {css : List (List Value)} {o : Obj} (h : PLoop w wr K l v i css) (hb2 : Below wr.heap.size wr w2) (hg4 : (w2.alloc o).grownBy w4 v.ownBlock) : obj w4 (w.heap.size + 1) #[.string K, .string ⟨#[]⟩, .int .i64 0, v] 24 := by
  have hb3 : Below wr.heap.size wr (w2.alloc o) := hb2.trans ((below_alloc w2 _).mono hb2.size)
  have hsz := h.size
  have hs3 := hb3.size
  exact (hg4.block _ (by omega) (fun e => by have := (own_lt4 h.row _ e.symm).1; omega)).trans ((hb3.block _ (by omega)).trans h.xo)
theorem PLoop.done {w wr : World} {K : ByteArray} {l : List PT} {v : Value} {css : List (List Value)} (h : PLoop w wr K l v l.length css) (h0 : 0 < l.length) (hl : l.length ≤ maxLen) (hK : K.size ≤ maxLen) : PosP (From w) (put4 wr w.heap.size (.string K) (.string ⟨#[]⟩) (.int .i64 0) v) (.mk K.data.toList [] 0 l) [.string K, .string ⟨#[]⟩, .int .i64 0, v] := by
  have hpg := put4_grown wr w.heap.size (.string K) (.string ⟨#[]⟩) (.int .i64 0) v
  have hsz := h.size
  obtain ⟨h1, ⟨rfl, h2⟩ | ⟨g, cap, cur, rfl, h4, h5, h6, h7, h8, h9⟩⟩ := h.row
  · omega
  · have hg : obj (put4 wr w.heap.size (.string K) (.string ⟨#[]⟩) (.int .i64 0) (.slice (some ⟨g, 0, none⟩) l.length cap)) g cur 24 := (hpg.block g (lt_of_heap h5) (by simp; omega)).trans h5
    refine row_pos (P := From w) K hK hl h.len h.four (fun i hi h2 => ?_) (show w.heap.size ≤ g by omega) (lt_of_heap hg) (fun k hk => ?_) cap
    · exact ((h.pos i hi h2).grown hpg fun b _ hb e => by
        have h6 := hb.1
        have h7 : b = w.heap.size := by simpa using e
        omega).mono fun b _ hb => by
          have h6 := hb.1
          show w.heap.size ≤ b
          omega
    · rw [cells_of_heap hg, ← h9, List.getElem?_take, if_pos hk, Array.getElem?_toList]
end Go.Proofs.YtkcpfgnfhbbhhaaDoor.po
