/-
  Small words on memory that the walks of this seat share: a row of bytes of the call's own, what a conversion of a text to bytes leaves. Conditions: none.
-/
import Derived.Test.YtmenhnbaabijiaaRows
import Derived.WalkKit
import Derived.Lib.Hide
import Derived.Deep.Draws
import Derived.WalkSpells
import Derived.Deep.AppendLies
import Derived.WalkLawsBesides
namespace Go.Proofs.Ytmenhnbaabijiaa.mem
open Go.RowKit

theorem ret_bool {x y : Bool} (h : x = y) : Ending.returned (.bool x) = .returned (.bool y) := by rw [h]
theorem ret_str {x y : ByteArray} (h : x = y) : Ending.returned (.string x) = .returned (.string y) := by rw [h]

/-- Block b, one of the call's own (it began in w), holds the bytes l from its beginning on, and they may be written. -/
structure OwnB (w wr : World) (b : Nat) (l : List UInt8) : Prop where
  below : Below w.heap.size w wr
  own : w.heap.size ≤ b
  cells : ∀ j (h : j < l.length), wr.cell? ⟨b, j, none⟩ = some (.int .u8 (l[j].toNat : Int))
  free : ∀ j, j < l.length → wr.frozen? ⟨b, j, none⟩ = false

theorem OwnB.drew {w wr : World} {b : Nat} {l : List UInt8} (h : OwnB w wr b l) : OwnB w wr.drew b l := ⟨h.below.drew, h.own, h.cells, h.free⟩
theorem OwnB.drewN {w wr : World} {b : Nat} {l : List UInt8} (h : OwnB w wr b l) (n : Nat) : OwnB w (wr.drewN n) b l :=
  ⟨⟨h.below.os, h.below.tape, h.below.output, h.below.size, h.below.block⟩, h.own, h.cells, h.free⟩

theorem OwnB.set {w wr : World} {b : Nat} {l : List UInt8} (h : OwnB w wr b l) (k : Nat) (hk : k < l.length) (c : UInt8) :
    OwnB w (wr.setCell ⟨b, k, none⟩ (.int .u8 (c.toNat : Int))) b (l.set k c) := by
  refine ⟨h.below.setCell (p := ⟨b, k, none⟩) h.own _, h.own, fun j hj => ?_, fun j hj => ?_⟩
  · have hj' : j < l.length := by simpa using hj
    by_cases e : k = j
    · subst e
      rw [World.cell?_setCell_same wr ⟨b, k, none⟩ _ (h.cells k hk)]
      simp
    · rw [World.cell?_setCell_other wr ⟨b, k, none⟩ ⟨b, j, none⟩ _ (by simp [*]), h.cells j hj']
      simp [e]
  · rw [World.frozen?_setCell]
    exact h.free j (by simpa using hj)

theorem bytesRow_cell (s : ByteArray) (cap : Nat) (j : Nat) (hj : j < s.data.toList.length) : (bytesRow s cap)[j]? = some (.int .u8 ((s.data.toList[j]).toNat : Int)) := by
  have h1 : j < s.data.size := by simpa using hj
  have h2 : j < s.size := h1
  simp [bytesRow, Array.getElem?_append, h2]

/-- What a text turned to bytes leaves: a block of the call's own that holds them. -/
theorem conv_bytes {P : Program} (w : World) (src dst e : TypeId) (s : ByteArray) (hs : P.underlying src = some .string) (hd : P.underlying dst = some (.slice e)) (he : P.underlying e = some (.int .u8)) :
    ∃ cap W1, (convert src dst (.string s)).run P w = .ok (.slice (some ⟨w.heap.size, 0, none⟩) s.size cap) W1 ∧ OwnB w W1 w.heap.size s.data.toList := by
  refine ⟨_, _, run_bytes_of_string w src dst e s hs hd he, ?_⟩
  have hnew : ∀ (cs : Array Value) (r : Nat × Nat), (w.drew.alloc (.cells cs e r)).heap[w.heap.size]? = some (.cells cs e r) := fun cs r => by
    show (w.heap.push _)[w.heap.size]? = _
    simp
  refine ⟨((Below.refl _ _).drew).alloc (Nat.le_refl _) _, Nat.le_refl _, fun j hj => ?_, fun j hj => ?_⟩
  · simp only [World.cell?, hnew]
    exact bytesRow_cell s _ j hj
  · have hle : s.data.toList.length ≤ (bytesRow s (grownCap w s.size 0 e)).size := by simp [bytesRow]
    simp only [World.frozen?, hnew]
    simp
    omega

/-- And back: the bytes that such a block holds, as a text. -/
theorem conv_back {P : Program} {w wr : World} {b : Nat} {l : List UInt8} (h : OwnB w wr b l) (src dst e : TypeId) (n cap : Nat) (hn : l.length = n) (hs : P.underlying src = some (.slice e)) (he : P.underlying e = some (.int .u8))
    (hd : P.underlying dst = some .string) : (convert src dst (.slice (some ⟨b, 0, none⟩) n cap)).run P wr = .ok (.string ⟨l.toArray⟩) wr := by
  subst hn
  refine run_convert_bytes_back wr src dst e ⟨b, 0, none⟩ cap l hs he hd fun j hj => ?_
  rw [← h.cells j hj]
  congr 1
  simp only [Addr.add]
  split <;> simp_all

theorem grown_trans {a b c : World} {row : Option Nat} (h : a.grownBy b row) (k : b.grownBy c row) : a.grownBy c row :=
  ⟨k.os.trans h.os, k.tape.trans h.tape, k.output.trans h.output, Nat.le_trans h.size k.size, fun i hi hne => (k.block i (Nat.lt_of_lt_of_le hi h.size) hne).trans (h.block i hi hne)⟩
theorem grown_alloc {a b : World} {row : Option Nat} (h : a.grownBy b row) (o : Obj) : a.grownBy (b.alloc o) row := grown_trans h (World.grownBy_alloc b o row)
theorem grown_drew {a b : World} {row : Option Nat} (h : a.grownBy b row) : a.grownBy b.drew row := ⟨h.os, h.tape, h.output, h.size, h.block⟩
theorem grown_drewN {a b : World} {row : Option Nat} (h : a.grownBy b row) (n : Nat) : a.grownBy (b.drewN n) row := ⟨h.os, h.tape, h.output, h.size, h.block⟩
theorem grown_set {a b : World} {g : Nat} (h : a.grownBy b (some g)) (k : Nat) (u : Value) : a.grownBy (b.setCell ⟨g, k, none⟩ u) (some g) :=
  ⟨h.os, h.tape, h.output, by simpa [World.setCell] using h.size, fun i hi hne => (Below.heap_setCell b ⟨g, k, none⟩ u i (fun e => hne (by rw [e]))).trans (h.block i hi hne)⟩
theorem grown_below {a b : World} (h : Below a.heap.size a b) (row : Option Nat) : a.grownBy b row := ⟨h.os, h.tape, h.output, h.size, fun i hi _ => h.block i hi⟩
theorem grown_refl (a : World) (row : Option Nat) : a.grownBy a row := ⟨rfl, rfl, rfl, Nat.le_refl _, fun _ _ _ => rfl⟩

/-- append of one element (of 'size' cells) to a slice of the call's own. -/
theorem wpList_append_el {P : Program} (w : World) {ops : Array Oper} {rest : List Oper} {o : Oper} {a : Act} {Q : Exit → Act → World → Prop} (hgd : o.guard = none) (s x : Operand) (t : TypeId)
    (ho : o.op = .call { callee := .builtin .append, args := #[s, x], argTypes := #[t, t] })
    (base : Nat) (e : TypeId) (i : TypeInfo) (z : Value) (size bytes : Nat) (ht : P.underlying t = some (.slice e)) (hi : P.info? e = some i) (hz : i.zero = some z)
    (hsize : i.size = size) (hby : i.bytes = bytes) (hzs : z.cells.size = size) (hsz : 0 < size)
    (v : Value) (n : Nat) (xs : List Value) (hs : a.eval s = v) (hown : w.ownsRow base e size v n xs)
    (us : List Value) (hx : a.eval x = .slice (some ⟨w.heap.size, 0, none⟩) 1 1) (hl : us.length = size) (h1 : ∀ u ∈ us, u.oneCell' = true)
    (hbytes : (n + 1) * bytes ≤ 140737488355328) (h63 : n + 1 ≤ maxLen) (hbase : base ≤ w.heap.size)
    (h : ∀ v' w', w'.ownsRow base e size v' (n + 1) (xs ++ us) → w.grownBy w' v.ownBlock → (v' = .slice none 0 0 → False) → wpList P ops Q rest (a.put o.dst v') w') :
    wpList P ops Q (o :: rest) a (w.alloc (.cells us.toArray e)) := by
  refine wpList_append_own _ hgd s x t ho base e i z size bytes ht hi hz hsize hby hzs hsz v n xs hs (hown.alloc _) ⟨w.heap.size, 0, none⟩ 1 1 us hx (by omega) ?_ h1 h63 hbytes (by simp; omega) ?_
  · intro j u hj
    have hnew : (w.alloc (.cells us.toArray e)).heap[w.heap.size]? = some (.cells us.toArray e) := by
      show (w.heap.push _)[w.heap.size]? = _
      simp
    have ha : (⟨w.heap.size, 0, none⟩ : Addr).add j = ⟨w.heap.size, j, none⟩ := by
      simp only [Addr.add]
      split <;> simp_all
    rw [ha]
    simp only [World.cell?, hnew]
    simpa using hj
  · intro v' w' h2 h3 h4
    exact h v' w' h2 (grown_trans (World.grownBy_alloc w _ _) h3) fun e => by simp at h4; exact h4 e
end Go.Proofs.Ytmenhnbaabijiaa.mem
