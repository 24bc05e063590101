/-
  Rows of texts that laws.posTokens makes. Conditions: in the statements.
-/
import Derived.Test.YtkcpfgnfhbbhhaaDoorPoH
import Derived.Test.YtkcpfgnfhbbhhaaDoorPoD
import Derived.Deep.AppendLies
import Derived.Deep.RegionHeld3
set_option linter.unusedVariables false
set_option linter.unusedSimpArgs false
namespace Go.Proofs.YtkcpfgnfhbbhhaaDoor.po
open Go.RowKit

theorem cell_alloc_old' (w : World) (o : Obj) {b : Nat} (h : b < w.heap.size) (i : Nat) : (w.alloc o).cell? ⟨b, i, none⟩ = w.cell? ⟨b, i, none⟩ := (below_alloc w o).cell (p := ⟨b, i, none⟩) h
def strV (b : Bs) : Value := .string ⟨b.toArray⟩
theorem strInfo : (Tryd.prog.info? 9).map (fun i => (i.zero, i.size, i.bytes)) = some (some (.string ⟨#[]⟩), 1, 16) := by kernel_rfl
theorem one_strs (l : List Bs) : ∀ u ∈ l.map strV, u.oneCell' = true := by
  intro u hu
  obtain ⟨b, _, rfl⟩ := List.mem_map.1 hu
  rfl
/-- A row of texts of the call's own; w1 is the world in which it began. -/
structure TS (w1 W : World) (v : Value) (l : List Bs) : Prop where
  below : Below w1.heap.size w1 W
  row : W.ownsRow w1.heap.size 9 1 v l.length (l.map strV)
theorem TS.on {w1 W W' : World} {v : Value} {l : List Bs} (h : TS w1 W v l) (hb : Below W.heap.size W W') : TS w1 W' v l :=
  ⟨h.below.trans (hb.mono h.below.size), own_below h.row hb⟩
theorem own_base {W : World} {b b' : Nat} {e : TypeId} {size : Nat} {v : Value} {n : Nat} {xs : List Value} (h : W.ownsRow b e size v n xs) (hb : b' ≤ b) : W.ownsRow b' e size v n xs := by
  obtain ⟨h1, h2 | ⟨g, cap, cur, h3, h4, h5⟩⟩ := h
  · exact ⟨h1, .inl h2⟩
  · exact ⟨h1, .inr ⟨g, cap, cur, h3, Nat.le_trans hb h4, h5⟩⟩
/-- What posTokens comes to. -/
def TokOut (T : PT) (w : World) (e : Ending) (w' : World) : Prop := ∃ g cap, e = .returned (.slice (some ⟨g, 0, none⟩) (toks T).length cap) ∧ w'.ownsRow w.heap.size 9 1 (.slice (some ⟨g, 0, none⟩) (toks T).length cap) (toks T).length ((toks T).map strV) ∧ Below w.heap.size w w'
theorem TS.call {w1 W W' : World} {T : PT} {g cap : Nat} (hb : Below w1.heap.size w1 W) (hr : W'.ownsRow W.heap.size 9 1 (.slice (some ⟨g, 0, none⟩) (toks T).length cap) (toks T).length ((toks T).map strV)) (hb2 : Below W.heap.size W W') : TS w1 W' (.slice (some ⟨g, 0, none⟩) (toks T).length cap) (toks T) :=
  ⟨hb.trans (hb2.mono hb.size), own_base hr hb.size⟩
/-- A new row. -/
theorem TS.new {w1 W : World} (hb : Below w1.heap.size w1 W) (l : List Bs) (hl : l.length ≤ maxLen) : TS w1 (W.alloc (.cells (l.map strV).toArray 9)) (.slice (some ⟨W.heap.size, 0, none⟩) l.length l.length) l := by
  refine ⟨hb.trans ((below_alloc W _).mono hb.size), by simp, .inr ⟨W.heap.size, l.length, _, rfl, hb.size, heap_alloc_new W _, Nat.le_refl _, hl, by simp, ?_⟩⟩
  rw [Nat.mul_one]
  exact List.take_of_length_le (by simp)
/-- Behind an append. -/
theorem TS.app {w1 W W' : World} {v v' : Value} {l k : List Bs} (h : TS w1 W v l) (hr : W'.ownsRow w1.heap.size 9 1 v' (l.length + k.length) (l.map strV ++ k.map strV)) (hg : W.grownBy W' v.ownBlock) : TS w1 W' v' (l ++ k) := by
  refine ⟨⟨hg.os.trans h.below.os, hg.tape.trans h.below.tape, hg.output.trans h.below.output, Nat.le_trans h.below.size hg.size, fun i hi => ?_⟩, by simpa using hr⟩
  refine (hg.block i (Nat.lt_of_lt_of_le hi h.below.size) fun e => ?_).trans (h.below.block i hi)
  have := (own_lt4 h.row i e.symm).1
  omega
/-- The cells of a row of texts. -/
theorem row_news {W : World} {base : Nat} {g cap : Nat} {k : List Bs} (h : W.ownsRow base 9 1 (.slice (some ⟨g, 0, none⟩) k.length cap) k.length (k.map strV)) : ∀ j u, (k.map strV)[j]? = some u → W.cell? ((⟨g, 0, none⟩ : Addr).add j) = some u := by
  intro j u hj
  obtain ⟨h1, ⟨h2, _⟩ | ⟨g', cap', cur, h3, h4, h5, h6, h7, h8, h9⟩⟩ := h
  · cases h2
  · cases h3
    have hlt : j < k.length := by
      have := (List.getElem?_eq_some_iff.1 hj).1
      simpa using this
    rw [add_none, Nat.zero_add, cells_of_heap h5, ← hj, ← h9, List.getElem?_take, if_pos (by omega), Array.getElem?_toList]
/-- append of a new row of texts. -/
theorem wpList_append_texts {w1 W : World} {ops : Array Oper} {rest : List Oper} {o : Oper} {a : Act} {Q : Exit → Act → World → Prop} (hgd : o.guard = none) (s x : Operand)
    (ho : o.op = .call { callee := .builtin .append, args := #[s, x], argTypes := #[30, 30] }) (v : Value) (l : List Bs) (hs : a.eval s = v) (h : TS w1 W v l) (k : List Bs) (ad : Addr) (c : Nat) (hx : a.eval x = .slice (some ad) k.length c) (hn : ∀ j u, (k.map strV)[j]? = some u → W.cell? (ad.add j) = some u) (hl : l.length + k.length ≤ 10000000)
    (hK : ∀ v' w', TS w1 w' v' (l ++ k) → W.grownBy w' v.ownBlock → (v' = .slice none 0 0 ↔ v = .slice none 0 0 ∧ k.length = 0) → wpList Tryd.prog ops Q rest (a.put o.dst v') w') : wpList Tryd.prog ops Q (o :: rest) a W := by
  obtain ⟨i0, hi0, hz0, hz1, hz2⟩ := info_parts strInfo
  refine wpList_append_own_at _ hgd s x 30 ho w1.heap.size 9 i0 _ 1 16 Tryd.underlying30 hi0 hz0 hz1 hz2 rfl (by decide) v l.length (l.map strV) hs h.row ad k.length c (k.map strV) hx (by simp) hn (one_strs k) (by unfold maxLen; omega) (by omega) h.below.size ?_
  intro v' w' h2 h3 h4 _
  exact hK v' w' (h.app h2 h3) h3 h4
/-- The same as one step of a region that draws its order. -/
theorem step_append_texts {w1 W : World} {ops : Array Oper} {o : Oper} {a : Act} {K : Act → World → Prop} {Q : Exit → Act → World → Prop} {E : Prop} (hgd : o.guard = none) (s x : Operand)
    (ho : o.op = .call { callee := .builtin .append, args := #[s, x], argTypes := #[30, 30] }) (v : Value) (l : List Bs) (hs : a.eval s = v) (h : TS w1 W v l) (k : List Bs) (ad : Addr) (c : Nat) (hx : a.eval x = .slice (some ad) k.length c) (hn : ∀ j u, (k.map strV)[j]? = some u → W.cell? (ad.add j) = some u) (hk : 0 < k.length) (hl : l.length + k.length ≤ 10000000)
    (hK : ∀ g cap w', TS w1 w' (.slice (some ⟨g, 0, none⟩) (l.length + k.length) cap) (l ++ k) → W.grownBy w' v.ownBlock → (v.ownBlock = some g ∨ g = W.heap.size) → K (a.put o.dst (.slice (some ⟨g, 0, none⟩) (l.length + k.length) cap)) w') : if Region.wanted o (yielded ops a.tmps) = true then Oper.wp Tryd.prog o a W K Q else E := by
  obtain ⟨i0, hi0, hz0, hz1, hz2⟩ := info_parts strInfo
  refine step_append_lies W hgd s x 30 ho w1.heap.size 9 i0 _ 1 16 Tryd.underlying30 hi0 hz0 hz1 hz2 rfl (by decide) v l.length (l.map strV) hs h.row ad k.length c (k.map strV) hx (by simp) hn (one_strs k) hk (by unfold maxLen; omega) (by omega) h.below.size _ rfl ?_
  intro g cap w' h2 h3 h4 _
  exact hK g cap w' (h.app h2 h3) h3 h4
theorem step_append_textsN {w1 W : World} {ops : Array Oper} {o : Oper} {a : Act} {K : Act → World → Prop} {Q : Exit → Act → World → Prop} {E : Prop} (n : Nat) (hgd : o.guard = none) (s x : Operand)
    (ho : o.op = .call { callee := .builtin .append, args := #[s, x], argTypes := #[30, 30] }) (v : Value) (l : List Bs) (hs : a.eval s = v) (h : TS w1 W v l) (k : List Bs) (hnl : n = l.length + k.length) (ad : Addr) (c : Nat) (hx : a.eval x = .slice (some ad) k.length c) (hn : ∀ j u, (k.map strV)[j]? = some u → W.cell? (ad.add j) = some u) (hk : 0 < k.length) (hl : l.length + k.length ≤ 10000000)
    (hK : ∀ g cap w', TS w1 w' (.slice (some ⟨g, 0, none⟩) n cap) (l ++ k) → W.grownBy w' v.ownBlock → (v.ownBlock = some g ∨ g = W.heap.size) → K (a.put o.dst (.slice (some ⟨g, 0, none⟩) n cap)) w') : if Region.wanted o (yielded ops a.tmps) = true then Oper.wp Tryd.prog o a W K Q else E := by
  subst hnl
  exact step_append_texts hgd s x ho v l hs h k ad c hx hn hk hl hK
theorem TS.form {w1 W : World} {v : Value} {l : List Bs} (h : TS w1 W v l) (h0 : 0 < l.length) : ∃ g cap, v = .slice (some ⟨g, 0, none⟩) l.length cap := by
  obtain ⟨h1, ⟨_, h2⟩ | ⟨g', cap', cur, h3, _⟩⟩ := h.row
  · omega
  · exact ⟨g', cap', h3⟩
theorem TS.out {w W : World} {o : Obj} {g cap : Nat} {T : PT} (h : TS (w.alloc o) W (.slice (some ⟨g, 0, none⟩) (toks T).length cap) (toks T)) : TokOut T w (.returned (.slice (some ⟨g, 0, none⟩) (toks T).length cap)) W :=
  ⟨g, cap, rfl, own_base h.row (below_alloc w o).size, (below_alloc w o).trans (h.below.mono (below_alloc w o).size)⟩
theorem tok_end {w w1 W : World} {g cap n : Nat} {T : PT} {l : List Bs} (hw : Below w.heap.size w w1) (hl : toks T = l) (hn : n = l.length) (h : TS w1 W (.slice (some ⟨g, 0, none⟩) n cap) l) : TokOut T w (.returned (.slice (some ⟨g, 0, none⟩) n cap)) W := by
  subst hl hn
  exact ⟨g, cap, rfl, own_base h.row hw.size, hw.trans (h.below.mono hw.size)⟩
theorem strV_data (N : ByteArray) : strV N.data.toList = .string N := by simp [strV]
/-- How many tokens there are. -/
theorem more_len (s : Bs) (l : List PT) (h : ∀ x ∈ l, (toks x).length + 1 ≤ 6 * x.size) : (toksMore s l).length ≤ 6 * PT.sizes l := by
  induction l with
  | nil => rw [toksMore]; simp
  | cons x r ih =>
    rw [toksMore, PT.sizes_cons]
    have h1 := h x (by simp)
    have h2 := ih (fun y hy => h y (by simp [hy]))
    simp
    omega
theorem sep_len (s : Bs) (l : List PT) (h0 : 0 < l.length) (h : ∀ x ∈ l, (toks x).length + 1 ≤ 6 * x.size) : (toksSep s l).length + 1 ≤ 6 * PT.sizes l := by
  cases l with
  | nil => simp at h0
  | cons x r =>
    rw [toksSep, PT.sizes_cons]
    have h1 := h x (by simp)
    have h2 := more_len s r (fun y hy => h y (by simp [hy]))
    simp
    omega
theorem toks_len' {k : Bs} {T : PT} (h : S k T) : (toks T).length + 1 ≤ 6 * T.size := by
  induction h with
  | var nm w h1 h2 => rw [toks_var, PT.size_eq]; simp; omega
  | int n hn => rw [toks_int, PT.size_eq]; simp; omega
  | pos k a hk ha ih => rw [toks_pos hk, PT.size_eq, PT.sizes_cons]; simp; omega
  | add a b ha hn hb ih1 ih2 => rw [toks_add, PT.size_eq, PT.sizes_cons, PT.sizes_cons]; simp; omega
  | choice l h0 h1 h2 ih => rw [toks_choice, PT.size_eq]; have := sep_len tBar l (by omega) ih; omega
  | nodes l h0 h1 h2 ih => rw [toks_nodes, PT.size_eq]; have := sep_len tQQ l (by omega) ih; simp; omega
  | index nm b h1 hb ih => rw [toks_index, toks_var, PT.size_eq, PT.sizes_cons, PT.sizes_cons]; simp; omega
  | last nm h1 => rw [toks_last, toks_var, PT.size_eq, PT.sizes_cons]; simp; omega
  | len nm h1 => rw [toks_len, toks_var, PT.size_eq, PT.sizes_cons]; simp; omega
  | ite nm a b h1 ha hb ih1 ih2 => rw [toks_if, toks_var, PT.size_eq, PT.sizes_cons, PT.sizes_cons, PT.sizes_cons]; simp; omega
/-- What posTokens is asked of: the argument's cells, and what it answers at its own arguments. -/
structure TAsk (w : World) (l : List PT) (p : Option Addr) : Prop where
  args : ArgsAt w p l
  ih : ∀ x ∈ l, ∀ (W : World) (c0 c1 c2 c3 : Value), PosAt W x [c0, c1, c2, c3] → Calls Tryd.prog 8 #[.agg #[c0, c1, c2, c3]] W (TokOut x W)
theorem TAsk.call {w w1 : World} {l : List PT} {p : Option Addr} (h : TAsk w l p) (hb : Below w.heap.size w w1) (i : Nat) (hi : i < l.length) : ∃ b o c0 c1 c2 c3, p = some ⟨b, o, none⟩ ∧ (∀ W, Below w1.heap.size w1 W → W.cell? ⟨b, o + i * 4, none⟩ = some c0 ∧ W.cell? ⟨b, o + i * 4 + 1, none⟩ = some c1 ∧ W.cell? ⟨b, o + i * 4 + 2, none⟩ = some c2 ∧ W.cell? ⟨b, o + i * 4 + 3, none⟩ = some c3) ∧ (∀ W, Below w1.heap.size w1 W → Calls Tryd.prog 8 #[.agg #[c0, c1, c2, c3]] W (TokOut l[i] W)) := by
  obtain ⟨b, o, e, hlt, c0, c1, c2, c3, q0, q1, q2, q3, hp⟩ := h.args i hi
  refine ⟨b, o, c0, c1, c2, c3, e, fun W hW => ?_, fun W hW => h.ih l[i] (List.getElem_mem hi) W c0 c1 c2 c3 (hp.on (hb.trans (hW.mono hb.size)))⟩
  have g2 := hb.trans (hW.mono hb.size)
  exact ⟨(g2.cell (p := ⟨b, _, none⟩) hlt).trans q0, (g2.cell (p := ⟨b, _, none⟩) hlt).trans q1, (g2.cell (p := ⟨b, _, none⟩) hlt).trans q2, (g2.cell (p := ⟨b, _, none⟩) hlt).trans q3⟩
end Go.Proofs.YtkcpfgnfhbbhhaaDoor.po
