/-
  Walks of (*token.File).init and (*token.File).ResolvePos: they lay the table of the lines of a text, once, and tell the line and the column of a place. They write the file's own block and blocks of their own. Conditions: the text is at most 1000000 bytes long, the place lies in it.
-/
import Derived.Test.YtmenhnbaabijiaaLines
namespace Go.Proofs.Ytmenhnbaabijiaa.lines
open Go.RowKit mem

def intV (n : Nat) : Value := .int .i64 (n : Int)

/-- Block f is a token.File over the text s whose table of lines has not been laid. -/
def FreshFile (w : World) (f : Nat) (s : ByteArray) : Prop := ∃ p : ByteArray, w.heap[f]? = some (.cells #[.string p, .string s, .slice none 0 0] 36 (0, 0))
/-- Block f is a token.File over the text s whose table of lines lies, in block g. -/
def LinedAt (w : World) (f : Nat) (s : ByteArray) (g cap : Nat) : Prop :=
  (∃ p : ByteArray, w.heap[f]? = some (.cells #[.string p, .string s, .slice (some ⟨g, 0, none⟩) (starts s.data.toList).length cap] 36 (0, 0))) ∧
  ∀ j, w.cell? ⟨g, j, none⟩ = ((starts s.data.toList).map intV)[j]? ∨ (starts s.data.toList).length ≤ j
def Lined (w : World) (f : Nat) (s : ByteArray) : Prop := ∃ g cap, LinedAt w f s g cap

theorem LinedAt.cell {w : World} {f g cap : Nat} {s : ByteArray} (h : LinedAt w f s g cap) (j : Nat) (hj : j < (starts s.data.toList).length) :
    w.cell? ⟨g, j, none⟩ = some (.int .i64 (((starts s.data.toList)[j] : Nat) : Int)) := by
  rcases h.2 j with e | e
  · rw [e]
    simp [intV, hj]
  · omega

theorem cells_of_heap {w : World} {b : Nat} {cs : Array Value} {t : TypeId} (h : w.heap[b]? = some (.cells cs t (0, 0))) (i : Nat) : w.cell? ⟨b, i, none⟩ = cs[i]? := cell_of_row w b i cs t (0, 0) h
theorem free_of_heap {w : World} {b : Nat} {cs : Array Value} {t : TypeId} (h : w.heap[b]? = some (.cells cs t (0, 0))) (i : Nat) : w.frozen? ⟨b, i, none⟩ = false := by simp [World.frozen?, h]
theorem lt_of_heap {w : World} {b : Nat} {o : Obj} (h : w.heap[b]? = some o) : b < w.heap.size := by
  rcases Nat.lt_or_ge b w.heap.size with h1 | h1
  · exact h1
  · rw [Array.getElem?_eq_none h1] at h
    cases h
theorem set_of_heap {w : World} {b : Nat} {cs : Array Value} {t : TypeId} (h : w.heap[b]? = some (.cells cs t (0, 0))) (i : Nat) (u : Value) :
    (w.setCell ⟨b, i, none⟩ u).heap[b]? = some (.cells (cs.setIfInBounds i u) t (0, 0)) := by
  simp [World.setCell, Array.getElem?_modify, h]

theorem posInfo : (Try.prog.info? 38).map (fun i => (i.zero, i.size, i.bytes)) = some (some (.int .i64 0), 1, 8) := by kernel_rfl
theorem cellsFile : Try.prog.cellsOf 36 = 3 := by kernel_rfl

/-- A table that has been laid is not laid again. -/
theorem init_old (s : ByteArray) (f : Nat) (w : World) (h : Lined w f s) :
    Calls Try.prog 27 #[.pointer (some ⟨f, 0, none⟩)] w fun e w' => e = .returned (.tuple #[]) ∧ w = w' := by
  obtain ⟨g, cap, ⟨p, hf⟩, hg⟩ := h
  have c2 : w.cell? ⟨f, 2, none⟩ = some (.slice (some ⟨g, 0, none⟩) (starts s.data.toList).length cap) := cells_of_heap hf 2
  have hne := fun (W : World) a n c => run_neq_slice_nil_any (P := Try.prog) W 34 38 a n c 0 0 Try.underlying34
  clear hf hg
  go_enter Try.func27, Try.ntmps27
  go_wp2
  refine bodyPost_ret (results_none rfl _ _ _) rfl ?_
  exact ⟨rfl, rfl⟩

/-- What init answers at a table that has not been laid. -/
def InitNew (s : ByteArray) (f : Nat) (w : World) (e : Ending) (w' : World) : Prop := e = .returned (.tuple #[]) ∧ Lined w' f s ∧ w.grownBy w' (some f)

theorem starts_take (l : List UInt8) (k : Nat) (hk : k < (splitL l).length) (h1 : k + 1 < (starts l).length) :
    (starts l).take (k + 2) = (starts l).take (k + 1) ++ [(starts l)[k] + (splitL l)[k].length + 1] := by
  rw [List.take_succ_eq_append_getElem h1]
  congr 2
  exact startsFrom_next _ 0 k hk (by unfold starts at h1; omega) h1
theorem starts_last (l : List UInt8) (k : Nat) (h : k < (starts l).length) : (starts l)[k] ≤ l.length + 1 := by
  have key : ∀ (l : List UInt8) (p i : Nat) (hi : i < (tails p l).length), (tails p l)[i] ≤ p + l.length + 1 := by
    intro l
    induction l with
    | nil =>
      intro p i hi
      have h0 : i = 0 := by simp [tails] at hi; exact hi
      subst h0
      simp [tails]
    | cons c r ih =>
      intro p i hi
      by_cases hc : c = 10
      · cases i with
        | zero => simp [tails, hc]
        | succ i =>
          have := ih (p + 1) i (by simpa [tails, hc] using hi)
          simp only [tails, hc, if_true, List.getElem_cons_succ, List.length_cons]
          omega
      · have := ih (p + 1) i (by simpa [tails, hc] using hi)
        simp only [tails, hc, if_false, List.length_cons]
        omega
  simp only [starts_eq]
  cases k with
  | zero => simp
  | succ k =>
    have := key l 0 k (by simpa [starts_eq] using h)
    simp only [List.getElem_cons_succ]
    omega

/-- What init knows behind the call of zzSplit. -/
theorem init_mid {w w1 : World} {pv : Value} {s : ByteArray}
    (hown : w1.ownsRow (w.alloc (Obj.cells #[Value.int IntKind.i64 0] 38)).heap.size 9 1 pv (splitL s.data.toList).length (List.map strV (splitL s.data.toList)))
    (hbel : Below (w.alloc (Obj.cells #[Value.int IntKind.i64 0] 38)).heap.size (w.alloc (Obj.cells #[Value.int IntKind.i64 0] 38)) w1) :
    ∃ g cap cur, pv = .slice (some ⟨g, 0, none⟩) (splitL s.data.toList).length cap ∧ w1.heap[g]? = some (.cells cur 9 (0, 0)) ∧
      (∀ j (hj : j < (splitL s.data.toList).length), cur[j]? = some (.string ⟨(splitL s.data.toList)[j].toArray⟩)) ∧
      w1.ownsRow w.heap.size 38 1 (.slice (some ⟨w.heap.size, 0, none⟩) 1 1) (0 + 1) (((starts s.data.toList).take (0 + 1)).map intV) ∧ Below w.heap.size w w1 := by
  have hsz : (w.alloc (Obj.cells #[Value.int IntKind.i64 0] 38)).heap.size = w.heap.size + 1 := by simp
  rw [hsz] at hown hbel
  have hpos : 0 < (splitL s.data.toList).length := List.length_pos_iff.2 (splitL_ne _)
  obtain ⟨hl, hd⟩ := hown
  rcases hd with ⟨_, h0⟩ | ⟨g, cap, cur, hv, hg, hh, _, _, _, ht⟩
  · omega
  refine ⟨g, cap, cur, hv, hh, fun j hj => ?_, ?_, ?_⟩
  · have e : (cur.toList.take ((splitL s.data.toList).length * 1))[j]? = ((splitL s.data.toList).map strV)[j]? := by rw [ht]
    rw [List.getElem?_take, if_pos (by omega)] at e
    rw [Array.getElem?_toList] at e
    rw [e]
    simp [strV, hj]
  · have h0 : w1.heap[w.heap.size]? = some (.cells #[.int .i64 0] 38 (0, 0)) := by
      rw [hbel.block w.heap.size (by omega)]
      show (w.heap.push _)[w.heap.size]? = _
      simp
    have e : (starts s.data.toList).take (0 + 1) = [0] := by rw [starts_eq]; simp
    rw [e]
    exact ⟨by simp, .inr ⟨w.heap.size, 1, _, rfl, Nat.le_refl _, h0, Nat.le_refl _, by unfold maxLen; omega, by simp, by simp [intV]⟩⟩
  · exact ((Below.refl _ _).alloc (Nat.le_refl _) _).trans (hbel.mono (by omega))

theorem one_int (n : Int) : ∀ u ∈ [Value.int .i64 n], u.oneCell' = true := by
  intro u hu
  simp at hu
  subst hu
  rfl
theorem piece_le (l : List UInt8) (k : Nat) (h : k < (splitL l).length) : (splitL l)[k].length ≤ l.length := by
  have h1 : k + 1 < (starts l).length := by unfold starts; rw [startsFrom_length]; omega
  have := startsFrom_next (splitL l) 0 k h (by unfold starts at h1; omega) h1
  have h2 := starts_last l (k + 1) h1
  unfold starts at h2
  omega

theorem own_ne {w : World} {base : Nat} {e t : TypeId} {size n : Nat} {gl cap g : Nat} {xs : List Value} {cur : Array Value} (h : w.ownsRow base e size (.slice (some ⟨gl, 0, none⟩) n cap) n xs)
    (hg : w.heap[g]? = some (.cells cur t (0, 0))) (hne : e ≠ t) : gl ≠ g := by
  rintro rfl
  rcases h.2 with ⟨h0, _⟩ | ⟨g', c', cur', hv, _, hh, _⟩
  · cases h0
  · injection hv with hv
    injection hv with hv
    injection hv with hv
    subst hv
    rw [hg] at hh
    injection hh with hh
    injection hh with _ ht
    exact hne ht.symm

set_option maxHeartbeats 4000000 in
set_option maxRecDepth 100000 in
theorem init_new (s : ByteArray) (f : Nat) (w : World) (hs : s.size ≤ 1000000) (h : FreshFile w f s) :
    Calls Try.prog 27 #[.pointer (some ⟨f, 0, none⟩)] w (InitNew s f w) := by
  obtain ⟨p, hf⟩ := h
  have c1 : w.cell? ⟨f, 1, none⟩ = some (.string s) := cells_of_heap hf 1
  have c2 : w.cell? ⟨f, 2, none⟩ = some (.slice none 0 0) := cells_of_heap hf 2
  have hne := fun (W : World) a n c => run_neq_slice_nil_any (P := Try.prog) W 34 38 a n c 0 0 Try.underlying34
  have hfl : f < w.heap.size := lt_of_heap hf
  have HF := Lib.hid hf
  clear hf
  obtain ⟨i0, hi, hz0, hz1, hz2⟩ := info_parts posInfo
  have HI := Lib.hid (And.intro hi (And.intro hz0 (And.intro hz1 hz2)))
  clear hi hz0 hz1 hz2
  have c1' : ∀ o, (w.alloc o).cell? ⟨f, 1, none⟩ = some (.string s) := fun o => (World.cell?_alloc_lt w o _ hfl).trans c1
  go_enter Try.func27, Try.ntmps27
  go_wp2_with fail
  refine (split_any _ _ hs).mono ?_
  rintro e w1 ⟨pv, rfl, hown, hbel⟩
  clear c1' c1 c2 hne
  obtain ⟨g, cap, cur, rfl, hg, hcur, hl0, hb0⟩ := init_mid hown hbel
  have N := Lib.hid (show (starts s.data.toList).length = (splitL s.data.toList).length + 1 from startsFrom_length _ _)
  have Hcur := Lib.hid hcur
  have HT := Lib.hid (fun k => starts_take s.data.toList k)
  have HL := Lib.hid (fun k => starts_last s.data.toList k)
  have HP := Lib.hid (fun k => piece_le s.data.toList k)
  have SZ := Lib.hid (size_list s)
  have NL := Lib.hid (show (splitL s.data.toList).length ≤ s.size + 1 by
    have e := startsFrom_length (splitL s.data.toList) 0
    have e2 := starts_length s.data.toList
    have e3 := List.count_le_length (a := (10 : UInt8)) (l := s.data.toList)
    have e4 := size_list s
    unfold starts at e2
    omega)
  clear hown hbel hcur
  go_wp2_with fail
  go_loopw [2, 17] (fun lv iv wr => ∃ k : Nat, k ≤ (splitL s.data.toList).length ∧ iv = .int .i64 k ∧ Hid (wr.ownsRow w.heap.size 38 1 lv (k + 1) (((starts s.data.toList).take (k + 1)).map intV)) ∧
      Hid (wr.heap[g]? = some (.cells cur 9 (0, 0))) ∧ Hid (Below w.heap.size w wr)) (fun _ iv _ => (splitL s.data.toList).length - (intOf iv).toNat)
  case atStart => exact ⟨0, Nat.zero_le _, rfl, hl0, hg, hb0⟩
  case round =>
    obtain ⟨k, hk, rfl, HO, HG, HB⟩ := hrel
    have HBs := Lib.hid HB.out.size
    by_cases hlt : k < (splitL s.data.toList).length
    · have hk1 : k < (starts s.data.toList).length := by have := N.out; omega
      have cp : wr.cell? ⟨g, k, none⟩ = some (.string ⟨(splitL s.data.toList)[k].toArray⟩) := by rw [cells_of_heap HG.out k]; exact Hcur.out k hlt
      obtain ⟨gl, capl, rfl, _, _⟩ := HO.out.form (by omega)
      have cl : wr.cell? ⟨gl, k, none⟩ = some (.int .i64 (((starts s.data.toList)[k] : Nat) : Int)) := by
        rw [HO.out.cellAt k (by omega)]
        simp [intV, hk1]
      have hT := Lib.hid (HT.out k hlt (by have := N.out; omega))
      have hx : ByteArray.size ⟨(splitL s.data.toList)[k].toArray⟩ = (splitL s.data.toList)[k].length := by simp [ByteArray.size]
      have HX := Lib.hid hx
      have b1 : (splitL s.data.toList)[k].length ≤ 1000000 := by have := HP.out k hlt; have := SZ.out; omega
      have b2 : (starts s.data.toList)[k] ≤ 1000001 := by have := HL.out k hk1; have := SZ.out; omega
      have b3 := NL.out
      clear hx
      generalize (starts s.data.toList)[k] = a at cl hT b2
      generalize (⟨(splitL s.data.toList)[k].toArray⟩ : ByteArray) = x at cp HX
      have b4 : x.size ≤ 1000000 := by have := HX.out; omega
      go_wp2_with (at_builtin; refine wpList_append_el _ rfl _ _ 34 rfl w.heap.size 38 i0 _ 1 8 Try.underlying34 HI.out.1 HI.out.2.1 HI.out.2.2.1 HI.out.2.2.2 rfl (by decide) (.slice (some ⟨gl, 0, none⟩) (k + 1) capl) _ _ rfl HO.out [Value.int .i64 ((a : Int) + (x.size : Int) + 1)] rfl rfl (one_int _) (by omega) (by unfold maxLen; omega) HBs.out ?_; intro v' w2 o1 g1 n1; have O1 := Lib.hid o1; have G1 := Lib.hid g1; clear o1 g1 n1)
      have hlg := own_ne HO.out HG.out (by decide)
      refine ⟨⟨k + 1, by omega, by go_num, ?_, ?_, HB.out.grown G1.out HBs.out fun j hj => (HO.out.lt j hj).1⟩, by simp [intOf]; omega⟩
      · have h := O1.out
        show World.ownsRow _ _ _ _ _ _ _
        rw [show k + 1 + 1 = k + 2 from rfl, hT.out, List.map_append]
        have e : Value.int .i64 ((a : Int) + (x.size : Int) + 1) = intV (a + (splitL s.data.toList)[k].length + 1) := by
          unfold intV
          rw [← HX.out]
          congr 1
        rw [e] at h
        exact h
      · show _ = _
        rw [G1.out.block g (lt_of_heap HG.out) (by simpa [Value.ownBlock] using fun e => hlg e.symm)]
        exact HG.out
    · have hkn : k = (splitL s.data.toList).length := by omega
      subst hkn
      have HFr := Lib.hid ((HB.out.block f hfl).trans HF.out)
      have cf : wr.cell? ⟨f, 2, none⟩ = some (.slice none 0 0) := cells_of_heap HFr.out 2
      have ff : wr.frozen? ⟨f, 2, none⟩ = false := free_of_heap HFr.out 2
      obtain ⟨gl, capl, rfl, _, _⟩ := HO.out.form (by omega)
      go_wp2
      go_end0
      have hall : (starts s.data.toList).take ((splitL s.data.toList).length + 1) = starts s.data.toList := by rw [← N.out]; exact List.take_length
      have hO := HO.out
      rw [hall] at hO
      have hfg : f ≠ gl := by
        have := (hO.lt gl (by simp [Value.ownBlock])).1
        omega
      refine ⟨rfl, ⟨gl, capl, ⟨p, ?_⟩, fun j => ?_⟩, grown_set (grown_below HB.out (some f)) 2 _⟩
      · rw [set_of_heap HFr.out 2, N.out]
        simp
      · by_cases hj : j < (starts s.data.toList).length
        · refine .inl ?_
          rw [World.cell?_setCell_other wr ⟨f, 2, none⟩ ⟨gl, j, none⟩ _ (fun e => hfg (congrArg Addr.block e))]
          exact hO.cellAt j (by have := N.out; omega)
        · exact .inr (by omega)

/-- A token.File over the text s, its table laid or not. -/
def FileOk (w : World) (f : Nat) (s : ByteArray) : Prop := FreshFile w f s ∨ Lined w f s

theorem init_any (s : ByteArray) (f : Nat) (w : World) (hs : s.size ≤ 1000000) (h : FileOk w f s) :
    Calls Try.prog 27 #[.pointer (some ⟨f, 0, none⟩)] w (InitNew s f w) := by
  rcases h with h | h
  · exact init_new s f w hs h
  · exact (init_old s f w h).mono fun e w' ⟨he, hw⟩ => ⟨he, hw ▸ h, hw ▸ grown_refl w _⟩

/-- What ResolvePos answers: the line, the column; the table lies behind the call. -/
def Resolved (s : ByteArray) (f n : Nat) (w : World) (e : Ending) (w' : World) : Prop :=
  e = .returned (.tuple #[.int .i64 (feeds s.data.toList n : Nat), .int .i64 ((n : Int) - (startOf s.data.toList n : Nat))]) ∧ Lined w' f s ∧ w.grownBy w' (some f)

set_option maxHeartbeats 4000000 in
set_option maxRecDepth 100000 in
theorem resolve_any (s : ByteArray) (f n : Nat) (w : World) (hs : s.size ≤ 1000000) (hn : n ≤ s.size) (h : FileOk w f s) :
    Calls Try.prog 25 #[.pointer (some ⟨f, 0, none⟩), .int .i64 (n : Int)] w (Resolved s f n w) := by
  have HH := Lib.hid h
  clear h
  go_enter Try.func25, Try.ntmps25
  go_wp2_with (first | (go_at_call 27; refine (init_any s _ _ hs HH.out).mono ?_; rintro e w1 ⟨rfl, hl, hg⟩; refine Hid.out ?_) | (go_at_call 26; go_in))
  refine Lib.hid ?_
  obtain ⟨g, cap, hL⟩ := hl
  obtain ⟨⟨p, hf⟩, _⟩ := id hL
  have c2 : w1.cell? ⟨f, 2, none⟩ = some (.slice (some ⟨g, 0, none⟩) (starts s.data.toList).length cap) := cells_of_heap hf 2
  have HL := Lib.hid hL
  have HG := Lib.hid hg
  have HF := Lib.hid (feeds_lt s.data.toList n)
  have HI := Lib.hid (fun i hi => starts_le_iff s.data.toList n i hi (by rw [size_list]; exact hn))
  have HS := Lib.hid (startOf_eq s.data.toList n)
  have HB := Lib.hid (starts_pos s.data.toList)
  have HM := Lib.hid (show (starts s.data.toList).length ≤ 1000002 by
    have e2 := starts_length s.data.toList
    have e3 := List.count_le_length (a := (10 : UInt8)) (l := s.data.toList)
    have e4 := size_list s
    omega)
  have b1 := HM.out
  have b2 := HB.out
  clear hf hL hg
  go_wp2_with fail
  go_loop [4] (fun i => ∃ k : Nat, Hid (feeds s.data.toList n ≤ k) ∧ k < (starts s.data.toList).length ∧ i = .int .i64 k) (fun i => (intOf i).toNat)
  case atStart => exact ⟨(starts s.data.toList).length - 1, (by have := HF.out; show _ ≤ _; omega), by omega, by congr 1; omega⟩
  case round =>
    obtain ⟨k, HK, hk, rfl⟩ := hrel
    have cl := HL.out.cell k hk
    have b3 : (starts s.data.toList)[k] ≤ 1000001 := by have := starts_last s.data.toList k hk; have := size_list s; omega
    have T := Lib.hid (HI.out k hk)
    have S := Lib.hid (fun e : k = feeds s.data.toList n => (show (starts s.data.toList)[k] = startOf s.data.toList n by subst e; exact HS.out hk))
    generalize (starts s.data.toList)[k] = x at cl b3 T S
    by_cases hle : x ≤ n
    · go_wp2
      go_ret2
      have e : k = feeds s.data.toList n := by have := T.out.1 hle; have := HK.out; omega
      have ex := S.out e
      refine ⟨?_, ⟨g, cap, HL.out⟩, HG.out⟩
      rw [← e, ← ex]
      rfl
    · have hk0 : 1 ≤ k := by
        have h1 := HK.out
        have h2 := T.out
        omega
      go_wp2
      go_round
      case rel => exact ⟨k - 1, (by have h1 := HK.out; have h2 := T.out; show _ ≤ _; omega), by omega, by congr 1; omega⟩
      case measure => simp [intOf]; omega
end Go.Proofs.Ytmenhnbaabijiaa.lines
