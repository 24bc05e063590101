/-
  The state of the parser of positions in memory, and its smallest functions: eof, current, next. Conditions: in the statements.
-/
import Derived.Test.YtkcpfgnfhbbhhaaDoorPsH
import Derived.Test.YtkcpfgnfhbbhhaaDoorPosM
import Derived.Deep.QuietTactic
import Derived.BigQuiet
import Derived.WalkLawsBesides
import Derived.Maps.AppendAt
import Derived.Laws.AppendOwn
set_option linter.unusedVariables false
set_option linter.unusedSimpArgs false
namespace Go.Proofs.YtkcpfgnfhbbhhaaDoor.po
open Go.RowKit

theorem grown_refl (a : World) (row : Option Nat) : a.grownBy a row := ⟨rfl, rfl, rfl, Nat.le_refl _, fun _ _ _ => rfl⟩
theorem grown_trans {a b c : World} {row : Option Nat} (h : a.grownBy b row) (k : b.grownBy c row) : a.grownBy c row :=
  ⟨k.os.trans h.os, k.tape.trans h.tape, k.output.trans h.output, Nat.le_trans h.size k.size, fun i hi hr => (k.block i (Nat.lt_of_lt_of_le hi h.size) hr).trans (h.block i hi hr)⟩
theorem grown_drewN {a b : World} {row : Option Nat} (h : a.grownBy b row) (n : Nat) : a.grownBy (b.drewN n) row := ⟨h.os, h.tape, h.output, h.size, h.block⟩
theorem grown_below {a b : World} (h : Below a.heap.size a b) (row : Option Nat) : a.grownBy b row := ⟨h.os, h.tape, h.output, h.size, fun i hi _ => h.block i hi⟩
theorem grown_cell {a b : World} {pb x o : Nat} (h : a.grownBy b (some pb)) (hx : x < a.heap.size) (hn : x ≠ pb) : b.cell? ⟨x, o, none⟩ = a.cell? ⟨x, o, none⟩ := by
  have := h.block x hx (by simp [hn])
  simp [World.cell?, this]
theorem grown_set {a b : World} {g : Nat} (h : a.grownBy b (some g)) (k : Nat) (u : Value) : a.grownBy (b.setCell ⟨g, k, none⟩ u) (some g) :=
  ⟨h.os, h.tape, h.output, by simpa [World.setCell] using h.size, fun i hi hne => (Below.heap_setCell b ⟨g, k, none⟩ u i (fun e => hne (by rw [e]))).trans (h.block i hi hne)⟩
theorem free_of_heap {w : World} {b : Nat} {cs : Array Value} {t : TypeId} (h : w.heap[b]? = some (.cells cs t (0, 0))) (i : Nat) : w.frozen? ⟨b, i, none⟩ = false := by simp [World.frozen?, h]
theorem set_of_heap {w : World} {b : Nat} {cs : Array Value} {t : TypeId} (h : w.heap[b]? = some (.cells cs t (0, 0))) (i : Nat) (u : Value) :
    (w.setCell ⟨b, i, none⟩ u).heap[b]? = some (.cells (cs.setIfInBounds i u) t (0, 0)) := by
  simp [World.setCell, Array.getElem?_modify, h]
theorem propsGlobal : Tryd.prog.globalNamed "unicode.properties" = some 2 := by kernel_rfl

/-- Block pb is a parser over the runes of txt, which lie in block sb; t is what is still to come. -/
structure PS (pb sb cap : Nat) (txt t : Bs) (w : World) : Prop where
  obj : w.heap[pb]? = some (.cells #[.slice (some ⟨sb, 0, none⟩) txt.length cap, .int .i64 ((txt.length - t.length : Nat) : Int)] 51 (0, 0))
  ne : sb ≠ pb
  lt : sb < w.heap.size
  src : ∀ j (h : j < txt.length), w.cell? ⟨sb, j, none⟩ = some (.int .i32 ((txt[j]).toNat : Int))
  suf : t <:+ txt
  cap : txt.length ≤ cap
  len : txt.length ≤ 1099511627776
  asc : ∀ c ∈ txt, c.toNat < 128
  low : 2 < pb
  tab : Lib.TabIs Tryd.prog w "unicode.properties" .u8 Lib.propertiesTab
section
variable {pb sb cap : Nat} {txt t t' : Bs} {w w' : World}
theorem PS.at_lt (h : PS pb sb cap txt t w) : pb < w.heap.size := lt_of_heap h.obj
theorem PS.le (h : PS pb sb cap txt t w) : t.length ≤ txt.length := h.suf.length_le
theorem tab_grown (h : Lib.TabIs Tryd.prog w "unicode.properties" .u8 Lib.propertiesTab) (hl : 2 < pb) (hg : w.grownBy w' (some pb)) : Lib.TabIs Tryd.prog w' "unicode.properties" .u8 Lib.propertiesTab := by
  unfold Lib.TabIs World.var? at h ⊢
  rw [propsGlobal] at h ⊢
  simp only [Option.bind_some] at h ⊢
  have hlt : 2 < w.heap.size := by
    rcases Nat.lt_or_ge 2 w.heap.size with h' | h'
    · exact h'
    · rw [Array.getElem?_eq_none h'] at h; cases h
  rw [hg.block 2 hlt (by simp; omega)]
  exact h
theorem PS.grown (h : PS pb sb cap txt t w) (hg : w.grownBy w' (some pb)) (ho : w'.heap[pb]? = some (.cells #[.slice (some ⟨sb, 0, none⟩) txt.length cap, .int .i64 ((txt.length - t'.length : Nat) : Int)] 51 (0, 0))) (hs : t' <:+ txt) : PS pb sb cap txt t' w' :=
  ⟨ho, h.ne, Nat.lt_of_lt_of_le h.lt hg.size, fun j hj => (grown_cell hg h.lt h.ne).trans (h.src j hj), hs, h.cap, h.len, h.asc, h.low, tab_grown h.tab h.low hg⟩
theorem PS.below (h : PS pb sb cap txt t w) (hb : Below w.heap.size w w') : PS pb sb cap txt t w' :=
  h.grown (grown_below hb _) ((hb.block pb h.at_lt).trans h.obj) h.suf
theorem PS.drewN (h : PS pb sb cap txt t w) (n : Nat) : PS pb sb cap txt t (w.drewN n) := h.grown (grown_drewN (grown_refl _ _) n) h.obj h.suf
/-- A function of the parser answers v, and t' is still to come. -/
def Ps (pb sb cap : Nat) (txt : Bs) (v : Value) (t' : Bs) (w : World) (e : Ending) (w' : World) : Prop := e = .returned v ∧ PS pb sb cap txt t' w' ∧ w.grownBy w' (some pb)
theorem drop_suf {a b : Bs} (h : a <:+ b) : b.drop (b.length - a.length) = a := by
  obtain ⟨p, rfl⟩ := h
  simp
theorem suf_get {c : UInt8} {r txt : Bs} (h : c :: r <:+ txt) : ∃ hl : txt.length - (c :: r).length < txt.length, txt[txt.length - (c :: r).length] = c := by
  obtain ⟨p, rfl⟩ := h
  refine ⟨by simp <;> omega, ?_⟩
  simp

set_option maxRecDepth 100000 in
theorem eof_any (h : PS pb sb cap txt t w) : Calls Tryd.prog 21 #[.pointer (some ⟨pb, 0, none⟩)] w (Ps pb sb cap txt (.bool t.isEmpty) t w) := by
  have x0 := cells_of_heap h.obj 0
  have x1 := cells_of_heap h.obj 1
  have hle := h.le
  have hiff : (txt.length ≤ txt.length - t.length) ↔ t.isEmpty = true := by
    cases t with
    | nil => simp
    | cons c r => simp at hle ⊢; omega
  have HF := Lib.hid hiff
  have HP := Lib.hid h
  obtain ⟨o, ho⟩ : ∃ o, o = txt.length - t.length := ⟨_, rfl⟩
  rw [← ho] at x1 HF
  obtain ⟨n, hn⟩ : ∃ n, n = txt.length := ⟨_, rfl⟩
  rw [← hn] at x0 x1 HF
  clear h hle hiff ho hn
  go_enter Tryd.func21, Tryd.ntmps21
  go_wp2_with fail
  go_quiet (fail)
  go_wp2_with fail
  go_ret
  refine ⟨?_, HP.out.drewN _, grown_drewN (grown_refl _ _) _⟩
  have e : decide (n ≤ o) = t.isEmpty := by
    rw [Bool.eq_iff_iff, ← HF.out]
    simp
  rw [← e]
  rfl
set_option maxRecDepth 100000 in
theorem current_any {c : UInt8} {r : Bs} (h : PS pb sb cap txt (c :: r) w) : Calls Tryd.prog 25 #[.pointer (some ⟨pb, 0, none⟩)] w (Ps pb sb cap txt (.int .i32 (c.toNat : Int)) (c :: r) w) := by
  have x0 := cells_of_heap h.obj 0
  have x1 := cells_of_heap h.obj 1
  obtain ⟨hl, hc⟩ := suf_get h.suf
  have x2 := h.src _ hl
  rw [hc] at x2
  have HP := Lib.hid h
  obtain ⟨o, ho⟩ : ∃ o, o = txt.length - (c :: r).length := ⟨_, rfl⟩
  rw [← ho] at x1 x2 hl
  obtain ⟨n, hn⟩ : ∃ n, n = txt.length := ⟨_, rfl⟩
  rw [← hn] at x0 x1 hl
  have hz : (o : Int) < (n : Int) := by omega
  have hz0 : (0 : Int) ≤ (o : Int) := by omega
  clear h hc ho hn
  go_enter Tryd.func25, Tryd.ntmps25
  go_wp2_with fail
  go_quiet (fail)
  go_wp2_with fail
  go_ret
  exact ⟨rfl, HP.out.drewN _, grown_drewN (grown_refl _ _) _⟩
set_option maxRecDepth 100000 in
theorem next_any {c : UInt8} {r : Bs} (h : PS pb sb cap txt (c :: r) w) : Calls Tryd.prog 26 #[.pointer (some ⟨pb, 0, none⟩)] w (Ps pb sb cap txt (.tuple #[]) r w) := by
  have x1 := cells_of_heap h.obj 1
  have hf := free_of_heap h.obj 1
  obtain ⟨hl, hc⟩ := suf_get h.suf
  have HP := Lib.hid h
  have hlen := h.len
  have HO : Hid (txt.length - (c :: r).length + 1 = txt.length - r.length) := by
    have := h.le
    show _ = _
    simp at this ⊢
    omega
  obtain ⟨o, ho⟩ : ∃ o, o = txt.length - (c :: r).length := ⟨_, rfl⟩
  rw [← ho] at x1 hl HO
  have hb : o ≤ 1099511627776 := by omega
  have HOO := Lib.hid ho
  clear h hc ho hlen
  go_enter Tryd.func26, Tryd.ntmps26
  go_wp2_with fail
  go_end0
  have hg : w.grownBy (w.setCell ⟨pb, 1, none⟩ (.int .i64 ((o : Int) + 1))) (some pb) := grown_set (grown_refl _ _) 1 _
  refine ⟨rfl, HP.out.grown hg ?_ ?_, hg⟩
  · rw [set_of_heap HP.out.obj 1 _, ← HO.out]
    rfl
  · exact (List.suffix_cons c r).trans HP.out.suf
end
end Go.Proofs.YtkcpfgnfhbbhhaaDoor.po
