/-
  The parser of positions: poslang.Parse at a text that spells an expression. Conditions: in the statement.
-/
import Derived.Test.YtkcpfgnfhbbhhaaDoorPsJ
import Derived.Test.YtkcpfgnfhbbhhaaDoorPosW
import Derived.Defers
import Derived.Recover
import Derived.Laws.IdiomStrings
import Derived.Laws.RangeString
set_option linter.unusedVariables false
set_option linter.unusedSimpArgs false
namespace Go.Proofs.YtkcpfgnfhbbhhaaDoor.po
open Go.RowKit

def runeV (c : UInt8) : Value := .int .i32 (c.toNat : Int)
theorem runes_from (s : ByteArray) (ha : ∀ c ∈ s.data.toList, c.toNat < 128) : ∀ (bound i : Nat) (acc : Array Value), bound + i = s.size → Conv.runesFrom s bound i acc = acc ++ ((s.data.toList.drop i).map runeV).toArray
  | 0, i, acc, h => by
    have hl := list_size s
    have e : s.data.toList.drop i = [] := List.drop_eq_nil_of_le (by omega)
    rw [Conv.runesFrom, e]
    simp
  | bound + 1, i, acc, h => by
    have hi : i < s.size := by omega
    have hl := list_size s
    have hg := list_get s i hi
    have hc : (s[i]).toNat < 128 := by rw [← hg]; exact ha _ (List.getElem_mem _)
    rw [Conv.runesFrom, if_pos hi, decode_ascii s i hi hc]
    simp only
    rw [runes_from s ha bound (i + 1) _ (by omega), List.drop_eq_getElem_cons (show i < s.data.toList.length by omega)]
    have e : (s.data.toList[i]'(by omega)) = s[i] := hg
    rw [e]
    simp [runeV]
def rCap (w : World) (s : ByteArray) : Nat := grownCap w s.size 0 21
def rRow (w : World) (s : ByteArray) : Array Value := (s.data.toList.map runeV).toArray ++ Array.replicate (rCap w s - s.size) (.int .i32 0)
theorem conv_runes (s : ByteArray) (ha : ∀ c ∈ s.data.toList, c.toNat < 128) (hs : s.size ≤ 1099511627776) (w : World) :
    (convert 9 49 (.string s)).run Tryd.prog w = .ok (.slice (some ⟨w.heap.size, 0, none⟩) s.size (rCap w s)) (w.drew.alloc (.cells (rRow w s) 21)) := by
  have h0 := runes_from s ha s.size 0 #[] (by omega)
  have hl := list_size s
  have hz : (Conv.runesFrom s s.size 0 #[]).size = s.size := by rw [h0]; simp
  have := run_runes_of_string (P := Tryd.prog) w 9 49 21 s Tryd.underlying9 Tryd.underlying49 Tryd.underlying21 (by rw [hz]; omega)
  rw [this, hz, h0]
  unfold rRow rCap
  simp
theorem rRow_get (w : World) (s : ByteArray) (j : Nat) (h : j < s.data.toList.length) : (rRow w s)[j]? = some (.int .i32 ((s.data.toList[j]).toNat : Int)) := by
  unfold rRow
  rw [Array.getElem?_append_left (by simpa using h)]
  rw [← Array.getElem?_toList, List.getElem?_map, List.getElem?_eq_getElem h]
  rfl
set_option maxHeartbeats 1000000 in
theorem catch_idle (p q : Addr) (w : World) :
    CallsD Tryd.prog 18 #[.pointer (some p), .pointer (some q)] .returning w fun e u' w' => e = .returned (.tuple #[]) ∧ u' = .returning ∧ w' = w := by
  refine callsD_of_wpS Tryd.func18 rfl fun c₀ cs hu => ?_
  apply wpS_seq
  apply wpS_region
  simp [wpOpsS, go_sem, recoverD, hu, Tryd.ntmps18, Exit.thenS]
  refine wpS_of_wp ?_
  rw [show (#[Value.pointer (some p), Value.pointer (some q)] ++ ((Array.replicate 14 undef).setIfInBounds 3 Value.nilIface).setIfInBounds 0 Value.nilIface) = #[Value.pointer (some p), .pointer (some q), .nilIface, undef, undef, .nilIface, undef, undef, undef, undef, undef, undef, undef, undef, undef, undef] from rfl]
  go_wp2_with fail
  cases c₀
  simp_all [bodyPostS, results, Tryd.results18]
theorem PS.row {pb sb cap : Nat} {txt t : Bs} {W W' : World} {row : Option Nat} (h : PS pb sb cap txt t W) (hg : W.grownBy W' row) (h1 : some pb ≠ row) (h2 : some sb ≠ row) (h3 : some 2 ≠ row) : PS pb sb cap txt t W' := by
  have ht : Lib.TabIs Tryd.prog W' "unicode.properties" .u8 Lib.propertiesTab := by
    have h1 := h.tab
    unfold Lib.TabIs World.var? at h1 ⊢
    rw [propsGlobal] at h1 ⊢
    simp only [Option.bind_some] at h1 ⊢
    rw [hg.block 2 (Nat.lt_trans h.low h.at_lt) h3]
    exact h1
  exact ⟨(hg.block pb h.at_lt h1).trans h.obj, h.ne, Nat.lt_of_lt_of_le h.lt hg.size, fun j hj => (row_cell hg h.lt h2).trans (h.src j hj), h.suf, h.cap, h.len, h.asc, h.low, ht⟩
theorem tab_lt {w : World} (h : Lib.TabIs Tryd.prog w "unicode.properties" .u8 Lib.propertiesTab) : 2 < w.heap.size := by
  unfold Lib.TabIs World.var? at h
  rw [propsGlobal] at h
  simp only [Option.bind_some] at h
  rcases Nat.lt_or_ge 2 w.heap.size with h' | h'
  · exact h'
  · rw [Array.getElem?_eq_none h'] at h; cases h
theorem tab_below {w w' : World} (h : Lib.TabIs Tryd.prog w "unicode.properties" .u8 Lib.propertiesTab) (hb : Below w.heap.size w w') : Lib.TabIs Tryd.prog w' "unicode.properties" .u8 Lib.propertiesTab := by
  have hlt := tab_lt h
  unfold Lib.TabIs World.var? at h ⊢
  rw [propsGlobal] at h ⊢
  simp only [Option.bind_some] at h ⊢
  rw [hb.block 2 hlt]
  exact h
def world2 (w : World) : World := (w.alloc (.cells #[.nilIface] 40)).alloc (.cells #[.nilIface] 42)
def world4 (w : World) (s : ByteArray) : World := ((((w.alloc (.cells #[.nilIface] 40)).alloc (.cells #[.nilIface] 42)).alloc (.cells (rRow ((w.alloc (.cells #[.nilIface] 40)).alloc (.cells #[.nilIface] 42)) s) 21)).alloc (.cells #[.slice (some ⟨w.heap.size + 1 + 1, 0, none⟩) s.size (rCap ((w.alloc (.cells #[.nilIface] 40)).alloc (.cells #[.nilIface] 42)) s), .int .i64 0] 51)).drew
theorem world4_facts {w : World} {s : ByteArray} (hcl : Clean s.data.toList) (hs : s.size ≤ 1099511627776) (hT : Lib.TabIs Tryd.prog w "unicode.properties" .u8 Lib.propertiesTab) :
    PS (w.heap.size + 1 + 1 + 1) (w.heap.size + 1 + 1) (rCap ((w.alloc (.cells #[.nilIface] 40)).alloc (.cells #[.nilIface] 42)) s) s.data.toList s.data.toList (world4 w s) ∧ Below w.heap.size w (world4 w s) ∧ obj (world4 w s) w.heap.size #[.nilIface] 40 ∧ obj (world4 w s) (w.heap.size + 1) #[.nilIface] 42 ∧ (world4 w s).heap.size = w.heap.size + 1 + 1 + 1 + 1 := by
  have hl := list_size s
  have hb : Below w.heap.size w (world4 w s) := by
    unfold world4
    exact (((((Below.refl _ w).alloc (Nat.le_refl _) _).alloc (by simp) _).alloc (by simp; omega) _).alloc (by simp; omega) _).drew
  have e3 : ∀ (w : World) (a b c d : Obj), (((((w.alloc a).alloc b).alloc c).alloc d).drew).heap = (((w.heap.push a).push b).push c).push d := fun _ _ _ _ _ => rfl
  have hsz : (world4 w s).heap.size = w.heap.size + 1 + 1 + 1 + 1 := by unfold world4; rw [e3]; simp
  have q0 : obj (world4 w s) w.heap.size #[.nilIface] 40 := by
    unfold obj world4
    rw [e3]
    simp only [Array.getElem?_push, Array.size_push]
    rw [if_neg (by omega), if_neg (by omega), if_neg (by omega), if_pos trivial]
  have q1 : obj (world4 w s) (w.heap.size + 1) #[.nilIface] 42 := by
    unfold obj world4
    rw [e3]
    simp only [Array.getElem?_push, Array.size_push]
    rw [if_neg (by omega), if_neg (by omega), if_pos trivial]
  have q2 : obj (world4 w s) (w.heap.size + 1 + 1) (rRow ((w.alloc (.cells #[.nilIface] 40)).alloc (.cells #[.nilIface] 42)) s) 21 := by
    unfold obj world4
    rw [e3]
    simp only [Array.getElem?_push, Array.size_push]
    rw [if_neg (by omega), if_pos trivial]
  have q3 : obj (world4 w s) (w.heap.size + 1 + 1 + 1) #[.slice (some ⟨w.heap.size + 1 + 1, 0, none⟩) s.size (rCap ((w.alloc (.cells #[.nilIface] 40)).alloc (.cells #[.nilIface] 42)) s), .int .i64 0] 51 := by
    unfold obj world4
    rw [e3]
    simp only [Array.getElem?_push, Array.size_push]
    rw [if_pos trivial]
  have h2 := tab_lt hT
  refine ⟨⟨?_, by omega, by omega, fun j hj => ?_, List.suffix_refl _, ?_, by omega, fun c hc => (hcl c hc).1, by omega, tab_below hT hb⟩, hb, q0, q1, hsz⟩
  · rw [Nat.sub_self, hl]
    exact q3
  · rw [cells_of_heap q2]
    exact rRow_get _ s j hj
  · rw [hl]
    exact grownCap_ge _ _ _ _
/-- What Parse comes to. -/
def Parsed (T : PT) (w : World) (e : Ending) (w' : World) : Prop := ∃ ty b, e = .returned (.tuple #[.iface ty (.pointer (some ⟨b, 0, none⟩)), .nilIface]) ∧ Tree (From w) w' T (.iface ty (.pointer (some ⟨b, 0, none⟩))) ∧ Below w.heap.size w w'
set_option maxHeartbeats 4000000 in
set_option maxRecDepth 100000 in
theorem parse_any {T : PT} {s : ByteArray} {w : World} (hS : S sP T) (hsz : T.size ≤ 500) (hcl : Clean s.data.toList) (hsp : Spell (toks T) s.data.toList []) (hh : s.data.toList.head? ≠ some 32) (hs : s.size ≤ 1099511627776) (hT : Lib.TabIs Tryd.prog w "unicode.properties" .u8 Lib.propertiesTab) :
    Calls Tryd.prog 14 #[.string s] w (Parsed T w) := by
  have hmf : ∀ (fn : Fn) (first cap : Array Value) (w : World), (Instr.makeFunc fn first cap).run Tryd.prog w = .ok (.func fn first cap) w := fun _ _ _ _ => rfl
  have hcv := conv_runes s (fun c hc => (hcl c hc).1) hs
  have HS := Lib.hid hS
  have HSZ := Lib.hid hsz
  have HCL := Lib.hid hcl
  have HSP := Lib.hid hsp
  have HH := Lib.hid hh
  have HL := Lib.hid hs
  have HT := Lib.hid hT
  clear hS hsz hcl hsp hh hs hT
  go_enter_defers Tryd.func14, Tryd.ntmps14
  have HF := Lib.hid (world4_facts HCL.out HL.out HT.out)
  obtain ⟨cap, hcap⟩ : ∃ cap, cap = rCap ((w.alloc (.cells #[.nilIface] 40)).alloc (.cells #[.nilIface] 42)) s := ⟨_, rfl⟩
  have hsk : s.data.toList.dropWhile spB = s.data.toList := drop_blanks (b := []) HCL.out (List.suffix_refl _) (by simp) HH.out
  have HSK := Lib.hid hsk
  clear hsk
  go_wp2_with fail
  rw [show ((((w.alloc (.cells #[.nilIface] 40)).alloc (.cells #[.nilIface] 42)).alloc (.cells (rRow ((w.alloc (.cells #[.nilIface] 40)).alloc (.cells #[.nilIface] 42)) s) 21)).alloc (.cells #[.slice (some ⟨w.heap.size + 1 + 1, 0, none⟩) s.size (rCap ((w.alloc (.cells #[.nilIface] 40)).alloc (.cells #[.nilIface] 42)) s), .int .i64 0] 51)).drew = world4 w s from rfl]
  obtain ⟨W4, hW4⟩ : ∃ W4, W4 = world4 w s := ⟨_, rfl⟩
  rw [← hW4] at HF ⊢
  rw [← hcap] at HF ⊢
  clear hW4 hcap
  refine (skip_any HF.out.1).mono ?_
  rintro e w5 ⟨rfl, hp, hg⟩
  have HP5 := Lib.hid ((show s.data.toList.dropWhile spB = s.data.toList from HSK.out) ▸ hp)
  have HG5 := Lib.hid hg
  clear hp hg
  go_wp2_with fail
  refine (whole_any HCL.out HS.out HSZ.out HP5.out HSP.out).mono ?_
  rintro e w6 ⟨ty, b, rfl, hT, hp, hg⟩
  have hg6 := grown_trans HG5.out hg
  have hsz4 := HF.out.2.2.2.2
  have q0 : obj w6 w.heap.size #[.nilIface] 40 := HF.out.2.2.1.grown (by simp <;> omega) hg6
  have q1 : obj w6 (w.heap.size + 1) #[.nilIface] 42 := HF.out.2.2.2.1.grown (by simp <;> omega) hg6
  have c0 : w6.cell? ⟨w.heap.size, 0, none⟩ = some .nilIface := cells_of_heap q0 0
  have f0 : w6.frozen? ⟨w.heap.size, 0, none⟩ = false := free_of_heap q0 0
  have hgs : w6.grownBy (w6.setCell ⟨w.heap.size, 0, none⟩ (.iface ty (ptr b))) (some w.heap.size) := grown_set (grown_refl _ _) 0 _
  have h2 := tab_lt HT.out
  have hps : PS _ _ _ _ _ (w6.setCell ⟨w.heap.size, 0, none⟩ (.iface ty (ptr b))) := hp.row hgs (by simp <;> omega) (by simp <;> omega) (by simp <;> omega)
  have hs5 : w.heap.size + 4 ≤ w5.heap.size := by have := HG5.out.size; omega
  have hT7 : Tree (From w5) (w6.setCell ⟨w.heap.size, 0, none⟩ (.iface ty (ptr b))) T (.iface ty (ptr b)) := hT.grown hgs fun b' _ hb e => by
    have h3 : w5.heap.size ≤ b' := hb
    have h4 : b' = w.heap.size := by simpa using e
    omega
  have r0 : obj (w6.setCell ⟨w.heap.size, 0, none⟩ (.iface ty (ptr b))) w.heap.size #[.iface ty (ptr b)] 40 := set_of_heap q0 0 _
  have r1 : obj (w6.setCell ⟨w.heap.size, 0, none⟩ (.iface ty (ptr b))) (w.heap.size + 1) #[.nilIface] 42 := q1.grown (by simp) hgs
  have hbl : Below w.heap.size w (w6.setCell ⟨w.heap.size, 0, none⟩ (.iface ty (ptr b))) := by
    have hb4 := HF.out.2.1
    refine ⟨hgs.os.trans (hg6.os.trans hb4.os), hgs.tape.trans (hg6.tape.trans hb4.tape), hgs.output.trans (hg6.output.trans hb4.output), Nat.le_trans hb4.size (Nat.le_trans hg6.size hgs.size), fun i hi => ?_⟩
    exact (hgs.block i (by have := hg6.size; omega) (by simp <;> omega)).trans ((hg6.block i (by omega) (by simp <;> omega)).trans (hb4.block i hi))
  have HPS := Lib.hid hps
  have HT7 := Lib.hid hT7
  have HR0 := Lib.hid r0
  have HR1 := Lib.hid r1
  have HBL := Lib.hid hbl
  have HS5 := Lib.hid hs5
  clear hT hp hg hg6 hsz4 q0 q1 hgs h2 hps hT7 r0 r1 hbl hs5
  go_wp2_with fail
  refine (eof_nil HPS.out).mono ?_
  rintro e w8 ⟨rfl, hp, hg⟩
  have hs5 := HS5.out
  have k0 : obj w8 w.heap.size #[.iface ty (ptr b)] 40 := HR0.out.grown (by simp <;> omega) hg
  have k1 : obj w8 (w.heap.size + 1) #[.nilIface] 42 := HR1.out.grown (by simp <;> omega) hg
  have y0 : w8.cell? ⟨w.heap.size, 0, none⟩ = some (.iface ty (ptr b)) := cells_of_heap k0 0
  have y1 : w8.cell? ⟨w.heap.size + 1, 0, none⟩ = some .nilIface := cells_of_heap k1 0
  have HT8 : Hid (Tree (From w) w8 T (.iface ty (ptr b))) := (HT7.out.grown hg fun b' _ hb e => by
    have h3 : w5.heap.size ≤ b' := hb
    have h4 : b' = w.heap.size + 1 + 1 + 1 := by simpa using e
    omega).mono fun b' _ hb => by
      have h3 : w5.heap.size ≤ b' := hb
      show w.heap.size ≤ b'
      omega
  have HB8 : Hid (Below w.heap.size w w8) := by
    have h9 := HBL.out
    refine ⟨hg.os.trans h9.os, hg.tape.trans h9.tape, hg.output.trans h9.output, Nat.le_trans h9.size hg.size, fun i hi => ?_⟩
    exact (hg.block i (Nat.lt_of_lt_of_le hi h9.size) (by simp <;> omega)).trans (h9.block i hi)
  clear hp hg hs5 k0 k1
  go_wp2_with fail
  refine leaves_cons (f := 18) (args := #[.pointer (some ⟨w.heap.size, 0, none⟩), .pointer (some ⟨w.heap.size + 1, 0, none⟩)]) (by simp) (by simp [go_sem]) ?_
  refine (catch_idle ⟨w.heap.size, 0, none⟩ ⟨w.heap.size + 1, 0, none⟩ _).mono ?_
  rintro e u' w'' ⟨rfl, rfl, rfl⟩
  simp [Leaves, settle, results, Tryd.results14, go_sem, y0, y1, Result.andThen]
  exact ⟨ty, b, rfl, HT8.out, HB8.out⟩
end Go.Proofs.YtkcpfgnfhbbhhaaDoor.po
