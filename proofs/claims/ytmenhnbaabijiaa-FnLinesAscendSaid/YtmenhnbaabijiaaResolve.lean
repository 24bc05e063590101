/-
  The walk of Resolve of the thin package: the line and the column of a place of a text. It writes blocks of its own alone. Conditions: the text is at most 1000000 bytes long, the place lies in it.
-/
import Derived.Test.YtmenhnbaabijiaaFile
namespace Go.Proofs.Ytmenhnbaabijiaa.lines
open Go.RowKit mem

/-- What Resolve answers. -/
def ResolvedImpl (s : ByteArray) (n : Nat) (w : World) (e : Ending) (w' : World) : Prop :=
  e = .returned (.tuple #[.int .i64 (feeds s.data.toList n : Nat), .int .i64 ((n : Int) - (startOf s.data.toList n : Nat))]) ∧ Below w.heap.size w w'

theorem below_of_grown {w w' : World} {o : Obj} (h : (w.alloc o).grownBy w' (some w.heap.size)) : Below w.heap.size w w' := by
  have hsz : (w.alloc o).heap.size = w.heap.size + 1 := by simp
  refine ⟨h.os, h.tape, h.output, by have := h.size; omega, fun k hk => ?_⟩
  rw [h.block k (by omega) (by simp; omega)]
  exact Below.heap_alloc w o k hk

set_option maxHeartbeats 1000000 in
set_option maxRecDepth 100000 in
theorem impl_resolve_any (s : ByteArray) (n : Nat) (w : World) (hs : s.size ≤ 1000000) (hn : n ≤ s.size) :
    Calls Try.prog 18 #[.string s, .int .i64 (n : Int)] w (ResolvedImpl s n w) := by
  have F : FileOk (w.alloc (.cells #[.string ByteArray.empty, .string s, .slice none 0 0] 36)) w.heap.size s := by
    refine .inl ⟨ByteArray.empty, ?_⟩
    show (w.heap.push _)[w.heap.size]? = _
    simp
  have HF := Lib.hid F
  clear F
  go_enter Try.func18, Try.ntmps18
  go_wp2_with fail
  refine (resolve_any s _ _ _ hs hn HF.out).mono ?_
  rintro e w1 ⟨rfl, _, hg⟩
  have HG := Lib.hid (below_of_grown hg)
  clear hg
  go_wp2
  go_ret2
  exact ⟨rfl, HG.out⟩
end Go.Proofs.Ytmenhnbaabijiaa.lines
