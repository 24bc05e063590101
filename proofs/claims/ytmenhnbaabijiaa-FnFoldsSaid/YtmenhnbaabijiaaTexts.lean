/-
  Walks of the laws' small functions on texts: ascii, upper, turned; and of EqualFold of the package char and of the thin package. Each writes only blocks of its own. Conditions: none (a text is no longer than a text can be).
-/
import Derived.Test.YtmenhnbaabijiaaMem
import Derived.Test.YtmenhnbaabijiaaPlain
import Derived.Deep.QuietTactic
import Derived.BigQuiet
namespace Go.Proofs.Ytmenhnbaabijiaa.texts
open Go.RowKit mem plain

/-- All bytes are below 128. -/
def asciiB (s : ByteArray) : Bool := s.data.toList.all fun c => decide (c.toNat < 128)
theorem ascii_yes (s : ByteArray) (h : ∀ j (hj : j < s.size), s[j].toNat < 128) : asciiB s = true := by
  simp only [asciiB, List.all_eq_true, decide_eq_true_eq]
  intro c hc
  obtain ⟨j, hj, rfl⟩ := List.getElem_of_mem hc
  exact h j (by simpa using hj)
theorem ascii_no (s : ByteArray) (j : Nat) (hj : j < s.size) (h : 128 ≤ s[j].toNat) : asciiB s = false := by
  rw [Bool.eq_false_iff]
  intro hall
  simp only [asciiB, List.all_eq_true, decide_eq_true_eq] at hall
  have := hall s[j] (by exact List.getElem_mem (l := s.data.toList) (by simpa using hj))
  omega

set_option maxRecDepth 100000 in
theorem ascii_any (s : ByteArray) (w : World) (hs : s.size ≤ maxLen) : Calls Try.prog 6 #[.string s] w fun e w' => e = .returned (.bool (asciiB s)) ∧ w = w' := by
  unfold maxLen at hs
  go_enter Try.func6, Try.ntmps6
  go_wp2
  go_loop [3] (fun i => ∃ k : Nat, k ≤ s.size ∧ i = .int .i64 k ∧ Hid (∀ j (hj : j < s.size), j < k → s[j].toNat < 128)) (fun i => s.size - (intOf i).toNat)
  case atStart => exact ⟨0, Nat.zero_le _, rfl, fun j _ h => absurd h (by omega)⟩
  case round =>
    obtain ⟨k, hk, rfl, H⟩ := hrel
    by_cases hlt : k < s.size
    · go_wp2
      · have h8 : (128 : Int) ≤ (s[k].toNat : Int) := by assumption
        go_ret
        exact ⟨ret_bool (ascii_no s k hlt (by omega)).symm, rfl⟩
      · have h8 : (s[k].toNat : Int) < 128 := by assumption
        go_round
        case rel => exact ⟨k + 1, by omega, by go_num, fun j hj hjk => if e : j = k then by subst e; omega else H.out j hj (by omega)⟩
        case measure => simp [intOf]; omega
    · go_wp2
      go_ret
      exact ⟨ret_bool (ascii_yes s fun j hj => H.out j hj (by omega)).symm, rfl⟩

/-- The capitals are the same. -/
def foldB (s t : ByteArray) : Bool := decide (upper s.data.toList = upper t.data.toList)
theorem fold_yes (s t : ByteArray) (hn : s.size = t.size) (h : ∀ j (hj : j < s.size) (hj' : j < t.size), up s[j] = up t[j]) : foldB s t = true := by
  simp only [foldB, decide_eq_true_eq]
  refine List.ext_getElem (by simpa [upper] using hn) fun j h1 h2 => ?_
  have h1' : j < s.size := by simpa [upper] using h1
  have h2' : j < t.size := by simpa [upper] using h2
  have := h j h1' h2'
  simp only [upper, List.getElem_map]
  exact this
theorem fold_size (s t : ByteArray) (hn : ¬ s.size = t.size) : foldB s t = false := by
  rw [Bool.eq_false_iff]
  intro h
  simp only [foldB, decide_eq_true_eq] at h
  have := congrArg List.length h
  simp [upper] at this
  exact hn this
theorem fold_no (s t : ByteArray) (j : Nat) (hj : j < s.size) (hj' : j < t.size) (h : ¬ up s[j] = up t[j]) : foldB s t = false := by
  rw [Bool.eq_false_iff]
  intro he
  simp only [foldB, decide_eq_true_eq] at he
  have e1 : (upper s.data.toList)[j]? = some (up s[j]) := by
    have : j < s.data.toList.length := by simpa using hj
    simp only [upper, List.getElem?_map, List.getElem?_eq_getElem this, Option.map_some]
    rfl
  have e2 : (upper t.data.toList)[j]? = some (up t[j]) := by
    have : j < t.data.toList.length := by simpa using hj'
    simp only [upper, List.getElem?_map, List.getElem?_eq_getElem this, Option.map_some]
    rfl
  rw [he, e2] at e1
  injection e1 with e1
  exact h e1.symm

/-- What both branches of the fold of one byte make of it: as numbers. -/
theorem up_num (c : UInt8) : ((up c).toNat : Int) = if 97 ≤ (c.toNat : Int) ∧ (c.toNat : Int) ≤ 122 then 65 + ((c.toNat : Int) - 97) else (c.toNat : Int) := by
  by_cases h : 97 ≤ c.toNat ∧ c.toNat ≤ 122
  · rw [up_hit h, if_pos (by omega)]
    omega
  · rw [up_miss h, if_neg (by omega)]
theorem up_eq {c d : UInt8} (h : ((up c).toNat : Int) = (up d).toNat) : up c = up d := UInt8.toNat_inj.1 (by omega)

set_option maxHeartbeats 1000000 in
set_option maxRecDepth 100000 in
theorem fold_any (s t : ByteArray) (w : World) (hs : s.size ≤ maxLen) :
    Calls Try.prog 19 #[.string s, .string t] w fun e w' => e = .returned (.bool (foldB s t)) ∧ ∃ n, w' = w.drewN n := by
  unfold maxLen at hs
  by_cases hn : s.size = t.size
  · have Hn := Lib.hid hn
    have hn1 : (((s.size : Nat) : Int) != (t.size : Int)) = false := by simp [hn]
    have ht' : ¬ t.size < s.size := by omega
    have ht'' : ¬ s.size < t.size := by omega
    clear hn
    go_enter Try.func19, Try.ntmps19
    go_wp2
    go_loopw [5] (fun i wr => ∃ k n : Nat, k ≤ s.size ∧ i = .int .i64 k ∧ wr = w.drewN n ∧ Hid (∀ j (hj : j < s.size) (hj' : j < t.size), j < k → up s[j] = up t[j])) (fun i _ => s.size - (intOf i).toNat)
    case atStart => exact ⟨0, 0, Nat.zero_le _, rfl, rfl, fun j _ _ h => absurd h (by omega)⟩
    case round =>
      obtain ⟨k, n, hk, rfl, rfl, H⟩ := hrel
      by_cases hlt : k < s.size
      · have hlt2 : k < t.size := by omega
        have U1 := Lib.hid (up_num s[k])
        have U2 := Lib.hid (up_num t[k])
        have B1 : (s[k].toNat : Int) ≤ 255 := by have := s[k].toNat_lt; omega
        have B2 : (t[k].toNat : Int) ≤ 255 := by have := t[k].toNat_lt; omega
        go_wp2
        go_quiet (fail)
        go_wp2
        all_goals first
          | (go_ret; refine ⟨ret_bool (fold_no s t k hlt hlt2 fun e => ?_).symm, _, rfl⟩; have e1 := congrArg (fun c : UInt8 => (c.toNat : Int)) e; simp only [U1.out, U2.out] at e1; simp only [bne_iff_ne] at *; split at e1 <;> split at e1 <;> omega)
          | (refine ⟨⟨k + 1, _, by omega, by go_num, rfl, fun j hj hj' hjk => if e : j = k then ?_ else H.out j hj hj' (by omega)⟩, by simp [intOf]; omega⟩; subst e; refine up_eq ?_; rw [U1.out, U2.out]; simp only [bne_eq_false_iff_eq] at *; split <;> split <;> omega)
      · go_wp2
        go_ret
        exact ⟨ret_bool (fold_yes s t Hn.out fun j hj hj' => H.out j hj hj' (by omega)).symm, _, rfl⟩
  · have hn1 : (((s.size : Nat) : Int) != (t.size : Int)) = true := by simp; omega
    have F := Lib.hid (fold_size s t hn)
    go_enter Try.func19, Try.ntmps19
    go_wp2
    go_ret
    exact ⟨ret_bool F.out.symm, 0, rfl⟩

theorem impl_fold_any (s t : ByteArray) (w : World) (hs : s.size ≤ maxLen) :
    Calls Try.prog 7 #[.string s, .string t] w fun e w' => e = .returned (.bool (foldB s t)) ∧ ∃ n, w' = w.drewN n := by
  have c := Lib.hid (fold_any s t w hs)
  go_enter Try.func7, Try.ntmps7
  go_wp2_with (go_at_call 19; refine c.out.mono ?_; rintro e w' ⟨rfl, n, rfl⟩)
  go_ret
  exact ⟨rfl, n, rfl⟩

theorem size_list (s : ByteArray) : s.data.toList.length = s.size := by simp

set_option maxHeartbeats 1000000 in
set_option maxRecDepth 100000 in
theorem upper_any (s : ByteArray) (w : World) (hs : s.size ≤ maxLen) :
    Calls Try.prog 8 #[.string s] w fun e w' => e = .returned (.string ⟨(upper s.data.toList).toArray⟩) ∧ Below w.heap.size w w' := by
  unfold maxLen at hs
  obtain ⟨cap, W1, hconv, H1⟩ := conv_bytes (P := Try.prog) w 9 32 5 s Try.underlying9 Try.underlying32 Try.underlying5
  generalize hb : w.heap.size = b at hconv H1 ⊢
  have Hb := Lib.hid hb
  clear hb
  have L := Lib.hid (size_list s)
  generalize s.data.toList = l at H1 L ⊢
  go_enter Try.func8, Try.ntmps8
  go_wp2
  go_loopw [9] (fun i wr => ∃ k : Nat, k ≤ s.size ∧ i = .int .i64 k ∧ OwnB w wr b (upTo k l)) (fun i _ => s.size - (intOf i).toNat)
  case atStart => exact ⟨0, Nat.zero_le _, rfl, by rw [upTo_zero]; exact H1⟩
  case round =>
    obtain ⟨k, hk, rfl, H⟩ := hrel
    by_cases hlt : k < s.size
    · have hkl : k < l.length := by have := L.out; omega
      have hku : k < (upTo k l).length := by rw [upTo_length]; exact hkl
      have hcell := H.cells k hku
      have hfree := H.free k hku
      rw [upTo_get k l hkl hku] at hcell
      have Hs := Lib.hid (fun c => H.set k hku c)
      have S := Lib.hid (upTo_succ k l hkl)
      have U := Lib.hid (fun h : 97 ≤ l[k].toNat ∧ l[k].toNat ≤ 122 => up_hit h)
      have M := Lib.hid (fun h : ¬ (97 ≤ l[k].toNat ∧ l[k].toNat ≤ 122) => upTo_skip k l hkl (up_miss h))
      have B1 : (l[k].toNat : Int) ≤ 255 := by have := l[k].toNat_lt; omega
      generalize l[k] = c at hcell S U M Hs B1
      have H' := Lib.hid H
      clear H hkl hku
      go_wp2
      · have h1 : (97 : Int) ≤ (c.toNat : Int) := by assumption
        have h2 : (c.toNat : Int) ≤ 122 := by assumption
        refine ⟨⟨k + 1, by omega, by go_num, ?_⟩, by simp [intOf]; omega⟩
        rw [S.out, ← U.out ⟨by omega, by omega⟩]
        exact Hs.out _
      · have h2 : (122 : Int) < (c.toNat : Int) := by assumption
        refine ⟨⟨k + 1, by omega, by go_num, ?_⟩, by simp [intOf]; omega⟩
        rw [M.out (by omega)]
        exact H'.out
      · have h2 : ¬ (97 : Int) ≤ (c.toNat : Int) := by assumption
        refine ⟨⟨k + 1, by omega, by go_num, ?_⟩, by simp [intOf]; omega⟩
        rw [M.out (by omega)]
        exact H'.out
    · have hkn : k = l.length := by have := L.out; omega
      subst hkn
      rw [upTo_all] at H
      have hback := conv_back (P := Try.prog) H 32 9 5 s.size cap (by rw [← L.out]; simp [upper]) Try.underlying32 Try.underlying5 Try.underlying9
      have hge : s.size ≤ l.length := by omega
      have HB := Lib.hid H.below
      clear H
      go_wp2
      go_ret
      exact ⟨rfl, by rw [← Hb.out]; exact HB.out⟩

/-- What turned answers: a case variant of the text, in blocks of its own. -/
def Turned (s : ByteArray) (w : World) (e : Ending) (w' : World) : Prop := ∃ r : List UInt8, e = .returned (.string ⟨r.toArray⟩) ∧ CaseOf s.data.toList r ∧ Below w.heap.size w w'

set_option maxHeartbeats 4000000 in
set_option maxRecDepth 100000 in
theorem turned_any (s : ByteArray) (m : Int) (w : World) (hs : s.size ≤ maxLen) (_hm0 : 0 ≤ m) (_hm1 : m ≤ 18446744073709551615) :
    Calls Try.prog 9 #[.string s, .int .u64 m] w (Turned s w) := by
  unfold maxLen at hs
  obtain ⟨cap, W1, hconv, H1⟩ := conv_bytes (P := Try.prog) w 9 32 5 s Try.underlying9 Try.underlying32 Try.underlying5
  generalize hb : w.heap.size = b at hconv H1
  have Hb := Lib.hid hb
  clear hb
  have L := Lib.hid (size_list s)
  generalize hl : s.data.toList = l at H1 L
  have Hl := Lib.hid hl
  clear hl
  go_enter Try.func9, Try.ntmps9
  go_wp2
  go_loopw [13] (fun i wr => ∃ (k : Nat) (r : List UInt8), k ≤ s.size ∧ i = .int .i64 k ∧ OwnB w wr b r ∧ TurnTo k l r) (fun i _ => s.size - (intOf i).toNat)
  case atStart => exact ⟨0, l, Nat.zero_le _, rfl, H1, TurnTo.zero l⟩
  case round =>
    obtain ⟨k, r, hk, rfl, H, T⟩ := hrel
    by_cases hlt : k < s.size
    · have hkl : k < l.length := by have := L.out; omega
      have hkr : k < r.length := by have := T.1.1; omega
      have hcell := H.cells k hkr
      have hfree := H.free k hkr
      rw [T.2 k hkl hkr (Nat.le_refl _)] at hcell
      have Hs := Lib.hid (fun nq c => (H.drewN nq).set k hkr c)
      have S := Lib.hid (fun ha : alpha l[k] = true => T.turn hkl ha)
      have U := Lib.hid (flip_num l[k])
      have T' := Lib.hid T.skip
      have A := Lib.hid (show alpha l[k] = decide ((97 ≤ l[k].toNat ∧ l[k].toNat ≤ 122) ∨ (65 ≤ l[k].toNat ∧ l[k].toNat ≤ 90)) from rfl)
      have B1 : (l[k].toNat : Int) ≤ 255 := by have := l[k].toNat_lt; omega
      generalize l[k] = c at hcell S U A Hs B1
      have H' := Lib.hid H
      clear H hkl hkr T
      rcases (show (c.toNat : Int) < 65 ∨ (65 ≤ (c.toNat : Int) ∧ (c.toNat : Int) ≤ 90) ∨ (90 < (c.toNat : Int) ∧ (c.toNat : Int) < 97) ∨ (97 ≤ (c.toNat : Int) ∧ (c.toNat : Int) ≤ 122) ∨ 122 < (c.toNat : Int) from by omega) with h | ⟨h, h'⟩ | ⟨h, h'⟩ | ⟨h, h'⟩ | h
      · have d1 : decide ((97 : Int) ≤ (c.toNat : Int)) = false := by simp; omega
        have d3 : decide ((65 : Int) ≤ (c.toNat : Int)) = false := by simp; omega
        go_wp2
        go_quiet (fail)
        clear d1 d3
        go_wp2
        all_goals first
          | (refine ⟨⟨k + 1, _, by omega, by go_num, H'.out.drewN nq, T'.out⟩, by simp [intOf]; omega⟩; done)
          | (refine ⟨⟨k + 1, _, by omega, by go_num, ?_, S.out (by rw [A.out]; simp; omega)⟩, by simp [intOf]; omega⟩; rw [U.out]; exact Hs.out nq _)
      · have d1 : decide ((97 : Int) ≤ (c.toNat : Int)) = false := by simp; omega
        have d3 : decide ((65 : Int) ≤ (c.toNat : Int)) = true := by simp; omega
        have d4 : decide ((c.toNat : Int) ≤ 90) = true := by simp; omega
        go_wp2
        go_quiet (fail)
        clear d1 d3 d4
        go_wp2
        all_goals first
          | (refine ⟨⟨k + 1, _, by omega, by go_num, H'.out.drewN nq, T'.out⟩, by simp [intOf]; omega⟩; done)
          | (refine ⟨⟨k + 1, _, by omega, by go_num, ?_, S.out (by rw [A.out]; simp; omega)⟩, by simp [intOf]; omega⟩; rw [U.out]; exact Hs.out nq _)
      · have d1 : decide ((97 : Int) ≤ (c.toNat : Int)) = false := by simp; omega
        have d3 : decide ((65 : Int) ≤ (c.toNat : Int)) = true := by simp; omega
        have d4 : decide ((c.toNat : Int) ≤ 90) = false := by simp; omega
        go_wp2
        go_quiet (fail)
        clear d1 d3 d4
        go_wp2
        all_goals first
          | (refine ⟨⟨k + 1, _, by omega, by go_num, H'.out.drewN nq, T'.out⟩, by simp [intOf]; omega⟩; done)
          | (refine ⟨⟨k + 1, _, by omega, by go_num, ?_, S.out (by rw [A.out]; simp; omega)⟩, by simp [intOf]; omega⟩; rw [U.out]; exact Hs.out nq _)
      · have d1 : decide ((97 : Int) ≤ (c.toNat : Int)) = true := by simp; omega
        have d2 : decide ((c.toNat : Int) ≤ 122) = true := by simp; omega
        have d3 : decide ((65 : Int) ≤ (c.toNat : Int)) = true := by simp; omega
        have d4 : decide ((c.toNat : Int) ≤ 90) = false := by simp; omega
        go_wp2
        go_quiet (fail)
        clear d1 d2 d3 d4
        go_wp2
        all_goals first
          | (refine ⟨⟨k + 1, _, by omega, by go_num, H'.out.drewN nq, T'.out⟩, by simp [intOf]; omega⟩; done)
          | (refine ⟨⟨k + 1, _, by omega, by go_num, ?_, S.out (by rw [A.out]; simp; omega)⟩, by simp [intOf]; omega⟩; rw [U.out]; exact Hs.out nq _)
      · have d1 : decide ((97 : Int) ≤ (c.toNat : Int)) = true := by simp; omega
        have d2 : decide ((c.toNat : Int) ≤ 122) = false := by simp; omega
        have d3 : decide ((65 : Int) ≤ (c.toNat : Int)) = true := by simp; omega
        have d4 : decide ((c.toNat : Int) ≤ 90) = false := by simp; omega
        go_wp2
        go_quiet (fail)
        clear d1 d2 d3 d4
        go_wp2
        all_goals first
          | (refine ⟨⟨k + 1, _, by omega, by go_num, H'.out.drewN nq, T'.out⟩, by simp [intOf]; omega⟩; done)
          | (refine ⟨⟨k + 1, _, by omega, by go_num, ?_, S.out (by rw [A.out]; simp; omega)⟩, by simp [intOf]; omega⟩; rw [U.out]; exact Hs.out nq _)
    · have hrn : r.length = s.size := by have := L.out; have := T.1.1; omega
      have hback := conv_back (P := Try.prog) H 32 9 5 s.size cap hrn Try.underlying32 Try.underlying5 Try.underlying9
      have HB := Lib.hid H.below
      have HT := Lib.hid T.1
      clear H T hrn
      go_wp2
      go_ret
      exact ⟨r, rfl, by rw [Hl.out]; exact HT.out, HB.out⟩
end Go.Proofs.Ytmenhnbaabijiaa.texts
