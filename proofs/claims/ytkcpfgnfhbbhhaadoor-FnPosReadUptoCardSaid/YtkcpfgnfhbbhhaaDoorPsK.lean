/-
  Rows of expressions that the parser builds. Conditions: in the statements.
-/
import Derived.Test.YtkcpfgnfhbbhhaaDoorPsN
set_option linter.unusedVariables false
set_option linter.unusedSimpArgs false
namespace Go.Proofs.YtkcpfgnfhbbhhaaDoor.po
open Go.RowKit

/-- append of one element to a slice of the call's own, and where the new one lies. -/
theorem wpList_append_one {P : Program} (w : World) {ops : Array Oper} {rest : List Oper} {o : Oper} {a : Act} {Q : Exit → Act → World → Prop} (hgd : o.guard = none) (s x : Operand) (t : TypeId)
    (ho : o.op = .call { callee := .builtin .append, args := #[s, x], argTypes := #[t, t] })
    (base : Nat) (e : TypeId) (i : TypeInfo) (z : Value) (bytes : Nat) (ht : P.underlying t = some (.slice e)) (hi : P.info? e = some i) (hz : i.zero = some z)
    (hsize : i.size = 1) (hby : i.bytes = bytes) (hzs : z.cells.size = 1)
    (v : Value) (n : Nat) (xs : List Value) (hs : a.eval s = v) (hown : w.ownsRow base e 1 v n xs)
    (u : Value) (hx : a.eval x = .slice (some ⟨w.heap.size, 0, none⟩) 1 1) (h1 : u.oneCell' = true)
    (hbytes : (n + 1) * bytes ≤ 140737488355328) (h63 : n + 1 ≤ maxLen) (hbase : base ≤ w.heap.size)
    (h : ∀ v' w', w'.ownsRow base e 1 v' (n + 1) (xs ++ [u]) → (w.alloc (.cells #[u] e)).grownBy w' v.ownBlock → (v'.ownBlock = v.ownBlock ∨ v'.ownBlock = some (w.heap.size + 1)) → wpList P ops Q rest (a.put o.dst v') w') :
    wpList P ops Q (o :: rest) a (w.alloc (.cells #[u] e)) := by
  refine wpList_append_own_at _ hgd s x t ho base e i z 1 bytes ht hi hz hsize hby hzs (by decide) v n xs hs (hown.alloc _) ⟨w.heap.size, 0, none⟩ 1 1 [u] hx rfl ?_ (by simp [h1]) h63 hbytes (by simp; omega) ?_
  · intro j u' hj
    rw [add_none]
    simp only [World.cell?, heap_alloc_new]
    simpa using hj
  · intro v' w' h2 h3 h4 h5
    exact h v' w' h2 h3 (by simpa using h5)
/-- The blocks from base on that are not the row's own. -/
def Off (base : Nat) (v : Value) (b : Nat) : Prop := base ≤ b ∧ some b ≠ v.ownBlock
/-- A row of expressions of the call's own. -/
structure Kids (base : Nat) (e : TypeId) (W : World) (v : Value) (l : List PT) (vs : List Value) : Prop where
  row : W.ownsRow base e 1 v l.length vs
  tr : ∀ i (h : i < l.length) (h2 : i < vs.length), Tree (Off base v) W l[i] vs[i]
theorem Kids.len {base : Nat} {e : TypeId} {W : World} {v : Value} {l : List PT} {vs : List Value} (h : Kids base e W v l vs) : vs.length = l.length := by simpa using h.row.1
theorem own_row {W W' : World} {base : Nat} {e : TypeId} {v : Value} {n : Nat} {xs : List Value} {row : Option Nat} (h : W.ownsRow base e 1 v n xs) (hg : W.grownBy W' row) (hr : ∀ g, row = some g → g < base) : W'.ownsRow base e 1 v n xs := by
  obtain ⟨h1, h2 | ⟨g, cap, cur, h3, h4, h5, h6⟩⟩ := h
  · exact ⟨h1, .inl h2⟩
  · exact ⟨h1, .inr ⟨g, cap, cur, h3, h4, (hg.block g (lt_of_heap h5) (fun e => by have := hr g e.symm; omega)).trans h5, h6⟩⟩
theorem Kids.keep {base pb : Nat} {e : TypeId} {W W' : World} {v : Value} {l : List PT} {vs : List Value} (h : Kids base e W v l vs) (hg : W.grownBy W' (some pb)) (hp : pb < base) : Kids base e W' v l vs :=
  ⟨own_row h.row hg (fun g e => by have : pb = g := by simpa using e
                                   omega), fun i hi h2 => (h.tr i hi h2).grown hg fun b _ hb e => by
    have h1 := hb.1
    have : b = pb := by simpa using e
    omega⟩
theorem own_lt {W : World} {base : Nat} {e : TypeId} {v : Value} {n : Nat} {xs : List Value} (h : W.ownsRow base e 1 v n xs) : ∀ g, v.ownBlock = some g → base ≤ g ∧ g < W.heap.size := by
  intro g hg
  obtain ⟨h1, ⟨rfl, _⟩ | ⟨g', cap, cur, rfl, h4, h5, h6⟩⟩ := h
  · cases hg
  · have e : g' = g := by simpa [Value.ownBlock] using hg
    subst e
    exact ⟨h4, lt_of_heap h5⟩
theorem Kids.add {base pb : Nat} {e : TypeId} {W W2 W4 : World} {v v' u : Value} {l : List PT} {vs : List Value} {y : PT} (h : Kids base e W v l vs) (hp : pb < base) (hB : base ≤ W.heap.size) (hg : W.grownBy W2 (some pb)) (hT : Tree (From W) W2 y u) (hr : W4.ownsRow base e 1 v' (l.length + 1) (vs ++ [u])) (hg4 : (W2.alloc (.cells #[u] e)).grownBy W4 v.ownBlock) (hb : v'.ownBlock = v.ownBlock ∨ v'.ownBlock = some (W2.heap.size + 1)) : Kids base e W4 v' (l ++ [y]) (vs ++ [u]) := by
  have h2 := h.keep hg hp
  have h3 := h2.keep (World.grownBy_alloc W2 (.cells #[u] e) (some pb)) hp
  have hT3 : Tree (Off base v) (W2.alloc (.cells #[u] e)) y u := (hT.mono fun b _ hb => (⟨Nat.le_trans hB hb, fun e => by
    have h5 := own_lt h.row b e.symm
    have h6 : W.heap.size ≤ b := hb
    omega⟩ : Off base v b)).grown (World.grownBy_alloc W2 (.cells #[u] e) (some pb)) fun b _ hb e => by
    have h1 := hb.1
    have : b = pb := by simpa using e
    omega
  have go : ∀ {x : PT} {q : Value}, Tree (Off base v) (W2.alloc (.cells #[u] e)) x q → Tree (Off base v') W4 x q := fun {x q} hx => by
    have h5 : Tree (fun b => Off base v b ∧ Off base v' b) (W2.alloc (.cells #[u] e)) x q := hx.mono fun b hlt hb' => ⟨hb', hb'.1, fun e => by
      rcases hb with hb | hb
      · exact hb'.2 (e.trans hb)
      · rw [hb] at e
        simp at hlt e
        omega⟩
    exact (h5.grown hg4 fun b _ hb' => hb'.1.2).mono fun b _ hb' => hb'.2
  refine ⟨by simpa using hr, fun i hi hi2 => ?_⟩
  have hlen := h.len
  rcases Nat.lt_or_ge i l.length with hlt | hge
  · rw [List.getElem_append_left hlt, List.getElem_append_left (by omega)]
    exact go (h3.tr i hlt (by omega))
  · have e : i = l.length := by simp at hi; omega
    subst e
    rw [List.getElem_append_right (Nat.le_refl _), List.getElem_append_right (by omega)]
    simp only [Nat.sub_self, hlen, List.getElem_cons_zero]
    exact go hT3
section
variable {pb sb cap : Nat} {txt t t1 t' : Bs} {w w' : World}
/-- What is under way, and where its text lies. -/
structure Way2 (pb sb cap : Nat) (txt t : Bs) (w W : World) : Prop extends Way pb sb cap txt t w W where
  slt : sb < w.heap.size
theorem Way2.row {W W' : World} {row : Option Nat} (h : Way2 pb sb cap txt t w W) (hg : W.grownBy W' row) (hr : ∀ g, row = some g → w.heap.size ≤ g) : Way2 pb sb cap txt t w W' := by
  have hps := h.ps
  have hk : ∀ b, b < w.heap.size → W'.heap[b]? = W.heap[b]? := fun b hb => hg.block b (Nat.lt_of_lt_of_le hb h.g.size) (fun e => by have := hr b e.symm; omega)
  have ht : Lib.TabIs Tryd.prog W' "unicode.properties" .u8 Lib.propertiesTab := by
    have h1 := hps.tab
    unfold Lib.TabIs World.var? at h1 ⊢
    rw [propsGlobal] at h1 ⊢
    simp only [Option.bind_some] at h1 ⊢
    rw [hk 2 (Nat.lt_trans hps.low h.lt)]
    exact h1
  exact ⟨⟨⟨(hk pb h.lt).trans hps.obj, hps.ne, Nat.lt_of_lt_of_le hps.lt hg.size, fun j hj => by
      have := hps.src j hj
      simp only [World.cell?, hk sb h.slt] at this ⊢
      exact this, hps.suf, hps.cap, hps.len, hps.asc, hps.low, ht⟩, ⟨hg.os.trans h.g.os, hg.tape.trans h.g.tape, hg.output.trans h.g.output, Nat.le_trans h.g.size hg.size, fun i hi hne => (hk i hi).trans (h.g.block i hi hne)⟩, h.lt⟩, h.slt⟩
theorem Way2.go2 {t1 : Bs} {W W' : World} (h : Way2 pb sb cap txt t w W) (hp : PS pb sb cap txt t1 W') (hg : W.grownBy W' (some pb)) : Way2 pb sb cap txt t1 w W' := ⟨h.toWay.go hp hg, h.slt⟩
theorem Way2.start (h : PS pb sb cap txt t w) : Way2 pb sb cap txt t w w := ⟨⟨h, grown_refl _ _, h.at_lt⟩, h.lt⟩
theorem Way2.alloc {W : World} (h : Way2 pb sb cap txt t w W) (o : Obj) : Way2 pb sb cap txt t w (W.alloc o) := h.go2 (h.ps.alloc o) (World.grownBy_alloc W o (some pb))
/-- A row of one expression. -/
theorem Kids.one {base : Nat} {e : TypeId} {W : World} {y : PT} {u : Value} (hB : base ≤ W.heap.size) (hT : Tree (fun b => base ≤ b) W y u) : Kids base e (W.alloc (.cells #[u] e)) (.slice (some ⟨W.heap.size, 0, none⟩) 1 1) [y] [u] := by
  refine ⟨⟨rfl, .inr ⟨W.heap.size, 1, #[u], rfl, hB, heap_alloc_new W _, Nat.le_refl _, by unfold maxLen; omega, rfl, rfl⟩⟩, fun i hi h2 => ?_⟩
  have e0 : i = 0 := by simp at hi; omega
  subst e0
  have h3 : Tree (Off base (.slice (some ⟨W.heap.size, 0, none⟩) 1 1)) W y u := hT.mono fun b hlt hb => ⟨hb, fun e => by
    have : b = W.heap.size := by simpa [Value.ownBlock] using e
    omega⟩
  exact h3.grown (World.grownBy_alloc W (.cells #[u] e) none) (fun b _ _ e => by cases e)
theorem Kids.two {base : Nat} {e : TypeId} {W : World} {y y2 : PT} {u u2 : Value} (hB : base ≤ W.heap.size) (hT : Tree (fun b => base ≤ b) W y u) (hT2 : Tree (fun b => base ≤ b) W y2 u2) : Kids base e (W.alloc (.cells #[u, u2] e)) (.slice (some ⟨W.heap.size, 0, none⟩) 2 2) [y, y2] [u, u2] := by
  refine ⟨⟨rfl, .inr ⟨W.heap.size, 2, #[u, u2], rfl, hB, heap_alloc_new W _, Nat.le_refl _, by unfold maxLen; omega, rfl, rfl⟩⟩, fun i hi h2 => ?_⟩
  have go : ∀ {x : PT} {q : Value}, Tree (fun b => base ≤ b) W x q → Tree (Off base (.slice (some ⟨W.heap.size, 0, none⟩) 2 2)) (W.alloc (.cells #[u, u2] e)) x q := fun {x q} hx => by
    have h3 : Tree (Off base (.slice (some ⟨W.heap.size, 0, none⟩) 2 2)) W x q := hx.mono fun b hlt hb => ⟨hb, fun e => by
      have : b = W.heap.size := by simpa [Value.ownBlock] using e
      omega⟩
    exact h3.grown (World.grownBy_alloc W (.cells #[u, u2] e) none) (fun b _ _ e => by cases e)
  match i, hi with
  | 0, _ => exact go hT
  | 1, _ => exact go hT2
  | i + 2, hi => simp at hi; omega
/-- The row as a slice. -/
theorem Kids.form {base : Nat} {e : TypeId} {W : World} {v : Value} {l : List PT} {vs : List Value} (h : Kids base e W v l vs) (h0 : 0 < l.length) : ∃ g cap, v = .slice (some ⟨g, 0, none⟩) l.length cap ∧ base ≤ g ∧ g < W.heap.size ∧ ∀ i (h : i < vs.length), W.cell? ⟨g, i, none⟩ = some vs[i] := by
  have hlen := h.len
  obtain ⟨h1, ⟨_, h2⟩ | ⟨g, cap, cur, rfl, h4, h5, h6, h7, h8, h9⟩⟩ := h.row
  · omega
  · refine ⟨g, cap, rfl, h4, lt_of_heap h5, fun i hi => ?_⟩
    rw [cells_of_heap h5]
    have : cur.toList[i]? = some vs[i] := by
      rw [← List.getElem?_eq_getElem hi, ← h9, List.getElem?_take, if_pos (by omega)]
    rwa [Array.getElem?_toList] at this
end
end Go.Proofs.YtkcpfgnfhbbhhaaDoor.po
