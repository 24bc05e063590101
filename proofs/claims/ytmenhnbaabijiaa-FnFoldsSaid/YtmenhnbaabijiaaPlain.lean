/-
  Plain Lean on bytes: capitals, case variants of a text. No program in sight. Conditions: none.
-/
import Derived.Test.YtmenhnbaabijiaaRows
namespace Go.Proofs.Ytmenhnbaabijiaa.plain

/-- The capital of a byte (the letters a to z turn, all else stays). -/
def up (c : UInt8) : UInt8 := if 97 ≤ c.toNat ∧ c.toNat ≤ 122 then UInt8.ofNat (c.toNat - 32) else c
/-- The other case of a letter. -/
def flip (c : UInt8) : UInt8 := c ^^^ 32
/-- A letter, small or capital. -/
def alpha (c : UInt8) : Bool := decide ((97 ≤ c.toNat ∧ c.toNat ≤ 122) ∨ (65 ≤ c.toNat ∧ c.toNat ≤ 90))

theorem all_bytes {p : UInt8 → Prop} (h : ∀ n : Fin 256, p (UInt8.ofNat n.val)) (c : UInt8) : p c := by
  have := h ⟨c.toNat, c.toNat_lt⟩
  simpa using this

theorem up_hit {c : UInt8} (h : 97 ≤ c.toNat ∧ c.toNat ≤ 122) : ((up c).toNat : Int) = (c.toNat : Int) - 32 := by
  unfold up
  have hs : UInt8.size = 256 := rfl
  rw [if_pos h, UInt8.toNat_ofNat_of_lt' (by omega)]
  omega
theorem up_miss {c : UInt8} (h : ¬ (97 ≤ c.toNat ∧ c.toNat ≤ 122)) : up c = c := by
  unfold up
  rw [if_neg h]

theorem flip_num (c : UInt8) : bits .xor .u8 (c.toNat : Int) 32 = ((flip c).toNat : Int) := by
  revert c
  refine all_bytes ?_
  decide +kernel
theorem up_flip (c : UInt8) (h : alpha c = true) : up (flip c) = up c := by
  revert c
  refine all_bytes ?_
  decide +kernel
theorem alpha_flip (c : UInt8) (h : alpha c = true) : alpha (flip c) = true := by
  revert c
  refine all_bytes ?_
  decide +kernel
theorem up_lt (c : UInt8) (h : c.toNat < 128) : (up c).toNat < 128 := by
  revert c
  refine all_bytes ?_
  decide +kernel

/-- The text in capitals. -/
def upper (l : List UInt8) : List UInt8 := l.map up

/-- r is l, but for the case of some of its letters. -/
def CaseOf (l r : List UInt8) : Prop := r.length = l.length ∧ ∀ j (h : j < l.length) (h' : j < r.length), r[j] = l[j] ∨ (alpha l[j] = true ∧ r[j] = flip l[j])

theorem CaseOf.refl (l : List UInt8) : CaseOf l l := ⟨rfl, fun _ _ _ => .inl rfl⟩
theorem CaseOf.upper {l r : List UInt8} (h : CaseOf l r) : upper r = upper l := by
  refine List.ext_getElem (by simp [plain.upper, h.1]) fun j h1 h2 => ?_
  have j1 : j < r.length := by simpa [plain.upper] using h1
  have j2 : j < l.length := by simpa [plain.upper] using h2
  simp only [plain.upper, List.getElem_map]
  rcases h.2 j j2 j1 with e | ⟨ha, e⟩
  · rw [e]
  · rw [e, up_flip _ ha]

/-- What the loop of upper has made of the text behind k rounds. -/
def upTo (k : Nat) (l : List UInt8) : List UInt8 := l.mapIdx fun j c => if j < k then up c else c
theorem upTo_length (k : Nat) (l : List UInt8) : (upTo k l).length = l.length := by simp [upTo]
theorem upTo_zero (l : List UInt8) : upTo 0 l = l := List.ext_getElem (by simp [upTo]) fun j h1 h2 => by simp [upTo]
theorem upTo_all (l : List UInt8) : upTo l.length l = upper l := List.ext_getElem (by simp [upTo, upper]) fun j h1 h2 => by
  have hj : j < l.length := by simpa [upTo] using h1
  simp [upTo, upper, hj]
theorem upTo_get (k : Nat) (l : List UInt8) (h : k < l.length) (h' : k < (upTo k l).length) : (upTo k l)[k] = l[k] := by simp [upTo]
theorem upTo_succ (k : Nat) (l : List UInt8) (h : k < l.length) : upTo (k + 1) l = (upTo k l).set k (up l[k]) := by
  refine List.ext_getElem (by simp [upTo_length]) fun j h1 h2 => ?_
  rw [List.getElem_set]
  by_cases e : k = j
  · subst e
    simp [upTo]
  · rw [if_neg e]
    have hj : j < k + 1 ↔ j < k := ⟨fun _ => by omega, fun _ => by omega⟩
    simp [upTo, hj]
theorem upTo_skip (k : Nat) (l : List UInt8) (h : k < l.length) (hu : up l[k] = l[k]) : upTo (k + 1) l = upTo k l := by
  rw [upTo_succ k l h, hu]
  refine List.ext_getElem (by simp) fun j h1 h2 => ?_
  rw [List.getElem_set]
  split
  · rename_i e
    subst e
    rw [upTo_get k l h]
  · rfl

/-- Behind k rounds of turned: a case variant whose places from k on stand as they were. -/
def TurnTo (k : Nat) (l r : List UInt8) : Prop := CaseOf l r ∧ ∀ j (h : j < l.length) (h' : j < r.length), k ≤ j → r[j] = l[j]
theorem TurnTo.zero (l : List UInt8) : TurnTo 0 l l := ⟨CaseOf.refl l, fun _ _ _ _ => rfl⟩
theorem TurnTo.skip {k : Nat} {l r : List UInt8} (h : TurnTo k l r) : TurnTo (k + 1) l r := ⟨h.1, fun j h1 h2 hk => h.2 j h1 h2 (by omega)⟩
theorem TurnTo.turn {k : Nat} {l r : List UInt8} (h : TurnTo k l r) (hk : k < l.length) (ha : alpha l[k] = true) : TurnTo (k + 1) l (r.set k (flip l[k])) := by
  refine ⟨⟨by simp [h.1.1], fun j h1 h2 => ?_⟩, fun j h1 h2 hj => ?_⟩
  · rw [List.getElem_set]
    split
    · rename_i e
      subst e
      exact .inr ⟨ha, rfl⟩
    · exact h.1.2 j h1 (by simpa using h2)
  · rw [List.getElem_set, if_neg (by omega)]
    exact h.2 j h1 (by simpa using h2) (by omega)
end Go.Proofs.Ytmenhnbaabijiaa.plain
