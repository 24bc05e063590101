/-
  Small words on memory that the walks of this seat share: a row of bytes of the call's own, what a conversion of a text to bytes leaves. Conditions: none.
-/
import Derived.Test.YtmenhnbaabijiaaRows
import Derived.WalkKit
import Derived.Lib.Hide
import Derived.Deep.Draws
namespace Go.Proofs.Ytmenhnbaabijiaa.mem
open Go.RowKit

theorem ret_bool {x y : Bool} (h : x = y) : Ending.returned (.bool x) = .returned (.bool y) := by rw [h]
theorem ret_str {x y : ByteArray} (h : x = y) : Ending.returned (.string x) = .returned (.string y) := by rw [h]

/-- Block b, one of the call's own (it began in w), holds the bytes l from its beginning on, and they may be written. -/
structure OwnB (w wr : World) (b : Nat) (l : List UInt8) : Prop where
  below : Below w.heap.size w wr
  own : w.heap.size ≤ b
  cells : ∀ j (h : j < l.length), wr.cell? ⟨b, j, none⟩ = some (.int .u8 (l[j].toNat : Int))
  free : ∀ j, j < l.length → wr.frozen? ⟨b, j, none⟩ = false

theorem OwnB.drew {w wr : World} {b : Nat} {l : List UInt8} (h : OwnB w wr b l) : OwnB w wr.drew b l := ⟨h.below.drew, h.own, h.cells, h.free⟩
theorem OwnB.drewN {w wr : World} {b : Nat} {l : List UInt8} (h : OwnB w wr b l) (n : Nat) : OwnB w (wr.drewN n) b l :=
  ⟨⟨h.below.os, h.below.tape, h.below.output, h.below.size, h.below.block⟩, h.own, h.cells, h.free⟩

theorem OwnB.set {w wr : World} {b : Nat} {l : List UInt8} (h : OwnB w wr b l) (k : Nat) (hk : k < l.length) (c : UInt8) :
    OwnB w (wr.setCell ⟨b, k, none⟩ (.int .u8 (c.toNat : Int))) b (l.set k c) := by
  refine ⟨h.below.setCell (p := ⟨b, k, none⟩) h.own _, h.own, fun j hj => ?_, fun j hj => ?_⟩
  · have hj' : j < l.length := by simpa using hj
    by_cases e : k = j
    · subst e
      rw [World.cell?_setCell_same wr ⟨b, k, none⟩ _ (h.cells k hk)]
      simp
    · rw [World.cell?_setCell_other wr ⟨b, k, none⟩ ⟨b, j, none⟩ _ (by simp [*]), h.cells j hj']
      simp [e]
  · rw [World.frozen?_setCell]
    exact h.free j (by simpa using hj)

theorem bytesRow_cell (s : ByteArray) (cap : Nat) (j : Nat) (hj : j < s.data.toList.length) : (bytesRow s cap)[j]? = some (.int .u8 ((s.data.toList[j]).toNat : Int)) := by
  have h1 : j < s.data.size := by simpa using hj
  have h2 : j < s.size := h1
  simp [bytesRow, Array.getElem?_append, h2]

/-- What a text turned to bytes leaves: a block of the call's own that holds them. -/
theorem conv_bytes {P : Program} (w : World) (src dst e : TypeId) (s : ByteArray) (hs : P.underlying src = some .string) (hd : P.underlying dst = some (.slice e)) (he : P.underlying e = some (.int .u8)) :
    ∃ cap W1, (convert src dst (.string s)).run P w = .ok (.slice (some ⟨w.heap.size, 0, none⟩) s.size cap) W1 ∧ OwnB w W1 w.heap.size s.data.toList := by
  refine ⟨_, _, run_bytes_of_string w src dst e s hs hd he, ?_⟩
  have hnew : ∀ (cs : Array Value) (r : Nat × Nat), (w.drew.alloc (.cells cs e r)).heap[w.heap.size]? = some (.cells cs e r) := fun cs r => by
    show (w.heap.push _)[w.heap.size]? = _
    simp
  refine ⟨((Below.refl _ _).drew).alloc (Nat.le_refl _) _, Nat.le_refl _, fun j hj => ?_, fun j hj => ?_⟩
  · simp only [World.cell?, hnew]
    exact bytesRow_cell s _ j hj
  · have hle : s.data.toList.length ≤ (bytesRow s (grownCap w s.size 0 e)).size := by simp [bytesRow]
    simp only [World.frozen?, hnew]
    simp
    omega

/-- And back: the bytes that such a block holds, as a text. -/
theorem conv_back {P : Program} {w wr : World} {b : Nat} {l : List UInt8} (h : OwnB w wr b l) (src dst e : TypeId) (n cap : Nat) (hn : l.length = n) (hs : P.underlying src = some (.slice e)) (he : P.underlying e = some (.int .u8))
    (hd : P.underlying dst = some .string) : (convert src dst (.slice (some ⟨b, 0, none⟩) n cap)).run P wr = .ok (.string ⟨l.toArray⟩) wr := by
  subst hn
  refine run_convert_bytes_back wr src dst e ⟨b, 0, none⟩ cap l hs he hd fun j hj => ?_
  rw [← h.cells j hj]
  congr 1
  simp only [Addr.add]
  split <;> simp_all
end Go.Proofs.Ytmenhnbaabijiaa.mem
