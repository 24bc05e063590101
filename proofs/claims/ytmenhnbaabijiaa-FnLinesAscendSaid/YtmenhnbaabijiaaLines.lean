/-
  Walks of the functions of the package token that tell the line and the column of a place: zzIndex and zzSplit at a line feed, (*File).init, (*File).ResolvePos. Conditions: of each, in its statement.
-/
import Derived.Test.YtmenhnbaabijiaaMem
import Derived.Test.YtmenhnbaabijiaaLinesPlain
import Derived.WalkSpells
import Derived.WalkLawsBesides
import Derived.Lib.IndexBytes
namespace Go.Proofs.Ytmenhnbaabijiaa.lines
open Go.RowKit mem

/-- The place of the first line feed, or -1. -/
def ix (l : List UInt8) : Int := if 10 ∈ l then ((l.idxOf 10 : Nat) : Int) else -1

theorem ret_int {k : IntKind} {a b : Int} (h : a = b) : Ending.returned (.int k a) = .returned (.int k b) := by rw [h]

theorem size_list (s : ByteArray) : s.data.toList.length = s.size := by simp
theorem one_byte (s : ByteArray) (k : Nat) (h : k < s.size) : (s.extract k (k + 1)).toList = [s[k]] := by
  have hl : k < s.data.toList.length := by rw [size_list]; exact h
  rw [Lib.toList_data, Lib.extract_data, Nat.add_sub_cancel_left, List.drop_eq_getElem_cons hl]
  rfl
theorem not_mem (s : ByteArray) (h : ∀ j (hj : j < s.size), s[j] ≠ 10) : ix s.data.toList = -1 := by
  unfold ix
  rw [if_neg]
  intro hm
  obtain ⟨j, hj, e⟩ := List.getElem_of_mem hm
  exact h j (by rw [← size_list]; exact hj) e
theorem first_at (l : List UInt8) : ∀ k (hk : k < l.length), l[k] = 10 → (∀ j (hj : j < l.length), j < k → l[j] ≠ 10) → l.idxOf 10 = k := by
  induction l with
  | nil => intro k hk; simp at hk
  | cons c r ih =>
    intro k hk h0 hb
    cases k with
    | zero =>
      have : c = 10 := h0
      subst this
      simp
    | succ k =>
      have hc : c ≠ 10 := hb 0 (by simp) (by omega)
      have := ih k (by simpa using hk) (by simpa using h0) (fun j hj hjk => hb (j + 1) (by simpa using hj) (by omega))
      have hc' : (c == 10) = false := by simpa using hc
      rw [List.idxOf_cons, this, hc']
      rfl
theorem is_first (s : ByteArray) (k : Nat) (hk : k < s.size) (h : s[k] = 10) (hb : ∀ j (hj : j < s.size), j < k → s[j] ≠ 10) : ix s.data.toList = (k : Int) := by
  have hl : k < s.data.toList.length := by rw [size_list]; exact hk
  have e : s.data.toList[k] = 10 := h
  unfold ix
  rw [if_pos (e ▸ List.getElem_mem hl), first_at _ k hl e fun j hj hjk => hb j (by rw [← size_list]; exact hj) hjk]

set_option maxHeartbeats 1000000 in
set_option maxRecDepth 100000 in
theorem index_any (s : ByteArray) (w : World) (hs : s.size ≤ 1000000) :
    Calls Try.prog 29 #[.string s, .string ⟨#[10]⟩] w fun e w' => e = .returned (.int .i64 (ix s.data.toList)) ∧ w = w' := by
  go_enter Try.func29, Try.ntmps29
  go_wp2
  go_loop [5] (fun i => ∃ k : Nat, k ≤ s.size ∧ i = .int .i64 k ∧ Hid (∀ j (hj : j < s.size), j < k → s[j] ≠ 10)) (fun i => s.size - (intOf i).toNat)
  case atStart => exact ⟨0, Nat.zero_le _, rfl, fun j _ h => absurd h (by omega)⟩
  case round =>
    obtain ⟨k, hk, rfl, H⟩ := hrel
    by_cases hlt : k < s.size
    · have O := Lib.hid (one_byte s k hlt)
      go_wp2
      · have h : ((s.extract k (k + 1)).toList == [10]) = true := by assumption
        rw [O.out] at h
        go_ret
        exact ⟨ret_int (is_first s k hlt (by simpa using h) H.out).symm, rfl⟩
      · have h : ((s.extract k (k + 1)).toList == [10]) = false := by assumption
        rw [O.out] at h
        go_round
        case rel => exact ⟨k + 1, by omega, by go_num, fun j hj hjk => if e : j = k then by subst e; simpa using h else H.out j hj (by omega)⟩
        case measure => simp [intOf]; omega
    · go_wp2
      go_ret
      exact ⟨ret_int (not_mem s fun j hj => H.out j hj (by omega)).symm, rfl⟩

/-- A list of bytes as a text's value. -/
def strV (l : List UInt8) : Value := .string ⟨l.toArray⟩
theorem extract_str (s : ByteArray) (a b : Nat) : Value.string (s.extract a b) = strV ((s.data.toList.drop a).take (b - a)) := by
  unfold strV
  congr 1
  apply ByteArray.ext
  rw [← Lib.extract_data]
theorem extract_end (s : ByteArray) (a : Nat) : (s.extract a s.size).data.toList = s.data.toList.drop a := Lib.extract_to_end s a
theorem str_self (s : ByteArray) : Value.string s = strV s.data.toList := by cases s; rfl

theorem splitL_miss (l : List UInt8) (h : 10 ∉ l) : splitL l = [l] := by
  induction l with
  | nil => rfl
  | cons c r ih =>
    have hc : c ≠ 10 := fun e => h (by simp [e])
    have hr : 10 ∉ r := fun e => h (by simp [e])
    simp [splitL, hc, ih hr]
theorem splitL_hit (l : List UInt8) (h : 10 ∈ l) : splitL l = l.take (l.idxOf 10) :: splitL (l.drop (l.idxOf 10 + 1)) := by
  induction l with
  | nil => simp at h
  | cons c r ih =>
    by_cases hc : c = 10
    · subst hc
      simp [splitL]
    · have hr : 10 ∈ r := by
        rcases List.mem_cons.1 h with e | e
        · exact absurd e.symm hc
        · exact e
      have hc' : (c == 10) = false := by simpa using hc
      rw [List.idxOf_cons, hc']
      simp [splitL, hc, ih hr]
theorem idx_lt (l : List UInt8) (h : 10 ∈ l) : l.idxOf 10 < l.length := List.idxOf_lt_length_iff.2 h

theorem strInfo : (Try.prog.info? 9).map (fun i => (i.zero, i.size, i.bytes)) = some (some (.string ByteArray.empty), 1, 16) := by kernel_rfl

/-- What zzSplit answers: a slice of the call's own that holds the pieces. -/
def Split (s : ByteArray) (w : World) (e : Ending) (w' : World) : Prop :=
  ∃ v, e = .returned v ∧ w'.ownsRow w.heap.size 9 1 v (splitL s.data.toList).length ((splitL s.data.toList).map strV) ∧ Below w.heap.size w w'

/-- How long the text in a slot is. -/
def strLen : Value → Nat
  | .string t => t.size
  | _ => 0
theorem one_str (x : ByteArray) : ∀ u ∈ [Value.string x], u.oneCell' = true := by
  intro u hu
  simp at hu
  subst hu
  rfl

set_option maxHeartbeats 2000000 in
set_option maxRecDepth 100000 in
theorem split_any (s : ByteArray) (w : World) (hs : s.size ≤ 1000000) :
    Calls Try.prog 28 #[.string s, .string ⟨#[10]⟩] w (Split s w) := by
  obtain ⟨i0, hi, hz0, hz1, hz2⟩ := info_parts strInfo
  have HI := Lib.hid hi
  have HZ0 := Lib.hid hz0
  have HZ1 := Lib.hid hz1
  have HZ2 := Lib.hid hz2
  clear hi hz0 hz1 hz2
  have hone : (((1 : Nat) : Int) == 0) = false := rfl
  go_enter Try.func28, Try.ntmps28
  go_wp2_with fail
  go_loopw [0, 5] (fun u v wr => ∃ (t : ByteArray) (done : List (List UInt8)), u = .string t ∧ t.size ≤ 1000000 ∧ done.length + t.size ≤ s.size ∧ Hid (done ++ splitL t.data.toList = splitL s.data.toList) ∧
      Hid (wr.ownsRow w.heap.size 9 1 v done.length (done.map strV)) ∧ Hid (Below w.heap.size w wr)) (fun u _ _ => strLen u)
  case atStart => exact ⟨s, [], rfl, hs, by simp, rfl, World.ownsRow_nil _ _ _ _, Below.refl _ _⟩
  case round =>
    obtain ⟨t, done, rfl, ht, hl, HD, HO, HB⟩ := hrel
    by_cases hm : (10 : UInt8) ∈ t.data.toList
    · have X := Lib.hid (show ix t.data.toList = ((t.data.toList.idxOf 10 : Nat) : Int) by unfold ix; rw [if_pos hm])
      have L := Lib.hid (idx_lt _ hm)
      have P := Lib.hid (splitL_hit _ hm)
      have Z := Lib.hid (size_list t)
      clear hm
      generalize hk : t.data.toList.idxOf 10 = k at X L P
      clear hk
      have hkt : k < t.size := by have := L.out; have := Z.out; omega
      have HBs := Lib.hid HB.out.size
      go_wp2_with (first
        | (go_at_call 29; refine (index_any _ _ ht).mono ?_; rintro e w' ⟨rfl, rfl⟩; rw [X.out])
        | (at_builtin; refine wpList_append_el _ rfl _ _ 40 rfl w.heap.size 9 i0 _ 1 16 Try.underlying40 HI.out HZ0.out HZ1.out HZ2.out rfl (by decide) u5 _ _ rfl HO.out [Value.string (t.extract 0 k)] rfl rfl (one_str _) (by omega) (by unfold maxLen; omega) HBs.out ?_; intro v' w1 o1 g1 n1; have O1 := Lib.hid o1; have G1 := Lib.hid g1; clear o1 g1 n1))
      have hsz : (t.extract (k + 1) t.size).size = t.size - (k + 1) := by simp
      have hE := extract_end t (k + 1)
      have hlen : (done ++ [t.data.toList.take k]).length = done.length + 1 := by simp
      refine ⟨⟨t.extract (k + 1) t.size, done ++ [t.data.toList.take k], rfl, by omega, by omega, ?_, ?_, ?_⟩, by simp only [strLen]; omega⟩
      · show _ = _
        rw [← HD.out, P.out, hE]
        simp
      · have h := O1.out
        rw [extract_str t 0 k] at h
        show World.ownsRow _ _ _ _ _ _ _
        rw [hlen, List.map_append]
        simpa using h
      · exact HB.out.grown G1.out HBs.out fun j hj => (HO.out.lt j hj).1
    · have X := Lib.hid (show ix t.data.toList = -1 by unfold ix; rw [if_neg hm])
      have P := Lib.hid (splitL_miss _ hm)
      clear hm
      have HBs := Lib.hid HB.out.size
      go_wp2_with (first
        | (go_at_call 29; refine (index_any _ _ ht).mono ?_; rintro e w' ⟨rfl, rfl⟩; rw [X.out])
        | (at_builtin; refine wpList_append_el _ rfl _ _ 40 rfl w.heap.size 9 i0 _ 1 16 Try.underlying40 HI.out HZ0.out HZ1.out HZ2.out rfl (by decide) u5 _ _ rfl HO.out [Value.string t] rfl rfl (one_str _) (by omega) (by unfold maxLen; omega) HBs.out ?_; intro v' w1 o1 g1 n1; have O1 := Lib.hid o1; have G1 := Lib.hid g1; clear o1 g1 n1))
      go_ret
      have hS : splitL s.data.toList = done ++ [t.data.toList] := by rw [← HD.out, P.out]
      have hlen : (done ++ [t.data.toList]).length = done.length + 1 := by simp
      refine ⟨_, rfl, ?_, HB.out.grown G1.out HBs.out fun j hj => (HO.out.lt j hj).1⟩
      have h := O1.out
      rw [str_self t] at h
      rw [hS, hlen, List.map_append]
      exact h
end Go.Proofs.Ytmenhnbaabijiaa.lines
