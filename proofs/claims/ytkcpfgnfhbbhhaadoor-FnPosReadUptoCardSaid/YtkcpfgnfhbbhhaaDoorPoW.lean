/-
  From what the row lists of package-level variables to what the walk asks of memory; a world in which it all lies so. Conditions: none.
-/
import Derived.Test.YtkcpfgnfhbbhhaaDoorCards
import Derived.Test.YtkcpfgnfhbbhhaaDoorTie
import Derived.Test.YtkcpfgnfhbbhhaaDoorPoV
import Derived.WalkKit
import Derived.ProofKit
import Derived.OpenShut
import Derived.Carry
import Derived.ShutString
import Derived.Lay
import Derived.LaidMore
import Derived.Deep.DeepHandedRow
import Derived.Deep.DeepWitnessRowRef
import Derived.Lib.LaidTab
import Derived.Stop.LaidErr
set_option linter.unusedVariables false
set_option linter.unusedSimpArgs false
namespace Go.Proofs.YtkcpfgnfhbbhhaaDoor.po
open Go.ChangeShapes Go.WideShapes Go.ChangeAt Go.RowKit

theorem own : ownKnob Tryd.prog.godebug = none := by kernel_rfl
theorem gProps : Tryd.prog.globalNamed "unicode.properties" = some 2 := by kernel_rfl
theorem gPropsType : (Tryd.prog.globals[2]?).map (·.type) = some 131 := by kernel_rfl
theorem cells131 : Tryd.prog.cellsOf 131 = 256 := by kernel_rfl
theorem cells5 : Tryd.prog.cellsOf 5 = 1 := by kernel_rfl
def laidAll : List (String × DataW Unit) := Rows.fnPosReadUptoRow.laid
theorem laid_drop {W : World} : ∀ (n : Nat) {l : List (String × DataW Unit)}, laidMet Tryd.prog l W → laidMet Tryd.prog (l.drop n) W
  | 0, l, h => by rw [List.drop_zero]; exact h
  | n + 1, [], h => h
  | n + 1, x :: r, h => laid_drop n (laidMet.tail h)
theorem props_at : laidAll.drop 6 = ("unicode.properties", Lib.tabData .u8 Lib.propertiesTab) :: [("unicode.Digit", Rows.laid_unicode_Digit), ("unicode.Letter", Rows.laid_unicode_Letter)] := by kernel_rfl
theorem no_handles : (laidAll.filter fun x => x.2.handleName?.isSome) = [] := by kernel_rfl
theorem met_of {W : World} (h : laidMetH Tryd.prog laidAll W) : laidMet Tryd.prog laidAll W := by
  unfold laidMetH at h
  rw [no_handles] at h
  exact h
theorem table {W : World} (h : laidMetH Tryd.prog laidAll W) : Lib.TabIs Tryd.prog W "unicode.properties" .u8 Lib.propertiesTab := by
  have h1 := laid_drop 6 (met_of h)
  rw [props_at] at h1
  exact Lib.tabIs_of_head gProps gPropsType Tryd.underlying131 Tryd.underlying5 cells5 cells131 h1
theorem met_to {W : World} (h : laidMet Tryd.prog laidAll W) : laidMetH Tryd.prog laidAll W := by
  unfold laidMetH
  rw [no_handles]
  exact h
noncomputable def laidWorld (os : Os) : World := (World.holding Tryd.prog os ⟨#[], #[], []⟩).layVars Tryd.prog laidAll
theorem laidWorld_os (os : Os) : (laidWorld os).os = os := World.layVars_os _ _ _
def wargs : Array Value := #[.agg #[.string ⟨#[]⟩, .string ⟨#[]⟩, .int .i64 0, .slice none 0 0], .slice none 0 0]
theorem laidWorld_met (os : Os) (args : Array Value) : laidMetH Tryd.prog laidAll ((laidWorld os).forCall (fun _ _ => 0) ⟨#[], args, []⟩).memory := by
  have e1 : (laidAll.filter fun x => (laidAll.map (·.1)).contains x.1) = laidAll := List.filter_eq_self.2 fun x hx => List.contains_iff_mem.2 (List.mem_map.2 ⟨x, hx, rfl⟩)
  have e2 : (laidAll.filter fun x => !(laidAll.map (·.1)).contains x.1) = [] := List.filter_eq_nil_iff.2 fun x hx => by rw [List.contains_iff_mem.2 (List.mem_map.2 ⟨x, hx, rfl⟩)]; simp
  have h : laidMet Tryd.prog laidAll (laidWorld os) := laidMet_layVars (w0 := World.holding Tryd.prog os ⟨#[], #[], []⟩) (laidAll.map (·.1)) [] (by rw [e1]; rfl) (by rw [e1]; kernel_rfl) (by rw [e1]; kernel_rfl) (by rw [e2]; exact LaidIn.none)
  refine met_to ?_
  exact h.of_heap (by simp [World.memory, World.forCall, Input.heap])
theorem reads (os : Os) {H : Type} (enc : TypeId × Value → H) : ∃ places, DataW.whole enc Tryd.prog ((laidWorld os).forCall (fun _ _ => 0) ⟨#[], wargs, []⟩).memory Tryd.f3.params.toList Rows.fnPosReadSpec.vars false wargs.toList 8 = some ([.agg [.lit (.string []), .lit (.string []), .lit (.int .i64 0), .nil], .nil], [], places) :=
  ⟨[], by kernel_rfl⟩
set_option maxRecDepth 100000 in
theorem witness (os : Os) (H : Type) (enc : TypeId × Value → H) : ∃ (w : World) (tape : Tape) (i : Input), w.os = os ∧ (w.forCall tape i).Shaped Tryd.checked.prog ∧ i.vars = [] ∧ Input.okWide Tryd.checked.prog (w.forCall tape i) .any w.heap.size 3 i ∧
      (Rows.OpenSpec.upto Rows.fnPosReadSpec).preRow enc Tryd.checked.prog Tryd.f3 Rows.fnPosReadUptoRow.domain false Rows.fnPosReadUptoRow.laid (w.forCall tape i).memory i.args ∧ ({ modest := false } : Assume).holds Tryd.checked.prog (lone (Frame.enter Tryd.checked.prog 3 i.args .normal) [] (w.forCall tape i)) := by
  obtain ⟨places, hx⟩ := reads os enc
  exact witness_row_atRef (enc := enc) (C := Tryd.checked) false (laidWorld os) wargs (laidWorld_os os) (by kernel_rfl) (by kernel_rfl) (by kernel_rfl)
      (OpenSpec.preRow_of_cond 8 hx (by kernel_rfl) (fun k hk => by cases hk; kernel_rfl) (by kernel_rfl) (laidWorld_met os wargs))
end Go.Proofs.YtkcpfgnfhbbhhaaDoor.po
