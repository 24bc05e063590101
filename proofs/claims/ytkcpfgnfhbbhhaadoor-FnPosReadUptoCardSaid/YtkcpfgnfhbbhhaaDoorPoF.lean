/-
  impl.posOf at every tree that the parser builds; impl.ReadPos. Conditions: in the statements.
-/
import Derived.Test.YtkcpfgnfhbbhhaaDoorPoCa
import Derived.Test.YtkcpfgnfhbbhhaaDoorPoCb
import Derived.Test.YtkcpfgnfhbbhhaaDoorPoCc
import Derived.Test.YtkcpfgnfhbbhhaaDoorPoE
import Derived.Test.YtkcpfgnfhbbhhaaDoorPosRz
set_option linter.unusedVariables false
set_option linter.unusedSimpArgs false
namespace Go.Proofs.YtkcpfgnfhbbhhaaDoor.po
open Go.RowKit

theorem kids_S {k : Bs} {T : PT} (h : S k T) : ∀ x ∈ T.args, ∃ k', S k' x := by
  cases h with
  | var nm w h1 h2 => intro x hx; cases hx
  | int n hn => intro x hx; cases hx
  | pos k a hk ha => intro x hx; rw [List.mem_singleton.1 hx]; exact ⟨_, ha⟩
  | add a b ha hn hb =>
    intro x hx
    rcases List.mem_cons.1 hx with rfl | hx
    · exact ⟨_, ha⟩
    · rw [List.mem_singleton.1 hx]; exact ⟨_, hb⟩
  | choice l h0 h1 h2 => exact fun x hx => ⟨_, h1 x hx⟩
  | nodes l h0 h1 h2 => exact fun x hx => ⟨_, h1 x hx⟩
  | index nm b h1 hb =>
    intro x hx
    rcases List.mem_cons.1 hx with rfl | hx
    · exact ⟨_, .var nm sN h1 (by decide)⟩
    · rw [List.mem_singleton.1 hx]; exact ⟨_, hb⟩
  | last nm h1 => intro x hx; rw [List.mem_singleton.1 hx]; exact ⟨_, .var nm sN h1 (by decide)⟩
  | len nm h1 => intro x hx; rw [List.mem_singleton.1 hx]; exact ⟨_, .var nm sN h1 (by decide)⟩
  | ite nm a b h1 ha hb =>
    intro x hx
    rcases List.mem_cons.1 hx with rfl | hx
    · exact ⟨_, .var nm sN h1 (by decide)⟩
    rcases List.mem_cons.1 hx with rfl | hx
    · exact ⟨_, ha⟩
    · rw [List.mem_singleton.1 hx]; exact ⟨_, hb⟩
theorem num_S {k : Bs} {T : PT} (h : S k T) : -9223372036854775808 ≤ T.num ∧ T.num ≤ 9223372036854775807 := by
  cases h with
  | int n hn => exact ⟨by show (-9223372036854775808 : Int) ≤ (n : Int); omega, by show (n : Int) ≤ 9223372036854775807; omega⟩
  | _ => exact ⟨by show (-9223372036854775808 : Int) ≤ 0; omega, by show (0 : Int) ≤ 9223372036854775807; omega⟩
theorem many_S {k : Bs} {T : PT} (h : S k T) (hk : T.kind = kChoice ∨ T.kind = kNodes) : 1 < T.args.length := by
  cases h with
  | choice l h0 h1 h2 => exact h0
  | nodes l h0 h1 h2 => exact h0
  | var nm w h1 h2 => rcases hk with hk | hk; exact absurd hk (show kVar ≠ kChoice by decide); exact absurd hk (show kVar ≠ kNodes by decide)
  | int n hn => rcases hk with hk | hk; exact absurd hk (show kInt ≠ kChoice by decide); exact absurd hk (show kInt ≠ kNodes by decide)
  | pos k a hk' ha => rcases hk' with rfl | rfl <;> rcases hk with hk | hk; exact absurd hk (show kPos ≠ kChoice by decide); exact absurd hk (show kPos ≠ kNodes by decide); exact absurd hk (show kEnd ≠ kChoice by decide); exact absurd hk (show kEnd ≠ kNodes by decide)
  | add a b ha hn hb => rcases hk with hk | hk; exact absurd hk (show kAdd ≠ kChoice by decide); exact absurd hk (show kAdd ≠ kNodes by decide)
  | index nm b h1 hb => rcases hk with hk | hk; exact absurd hk (show kIndex ≠ kChoice by decide); exact absurd hk (show kIndex ≠ kNodes by decide)
  | last nm h1 => rcases hk with hk | hk; exact absurd hk (show kLast ≠ kChoice by decide); exact absurd hk (show kLast ≠ kNodes by decide)
  | len nm h1 => rcases hk with hk | hk; exact absurd hk (show kLen ≠ kChoice by decide); exact absurd hk (show kLen ≠ kNodes by decide)
  | ite nm a b h1 ha hb => rcases hk with hk | hk; exact absurd hk (show kIf ≠ kChoice by decide); exact absurd hk (show kIf ≠ kNodes by decide)
theorem kid_bulk {k nm : Bs} {n : Int} {l : List PT} (h : (PT.mk k nm n l).bulk ≤ 1048576) {x : PT} (hx : x ∈ l) : x.bulk ≤ 1048576 := by
  rw [PT.bulk] at h
  have := bulk_mem hx
  omega
theorem len_bulks (l : List PT) : l.length ≤ PT.bulks l := by
  induction l with
  | nil => simp
  | cons x r ih =>
    have : 1 ≤ x.bulk := by cases x; rw [PT.bulk]; omega
    simp only [List.length_cons, PT.bulks]
    omega
theorem posof_any {P : Nat → Prop} {W : World} {T : PT} {v : Value} (h : Tree P W T v) : ∀ k, S k T → T.bulk ≤ 1048576 → ∀ w, Below W.heap.size W w → Calls Tryd.prog 15 #[v] w (PosOut T w) := by
  induction h with
  | var nm b h1 h2 =>
    intro k hS hB w hb
    refine posof_var ⟨nm.toArray⟩ h2 hb ?_
    rw [PT.bulk] at hB
    have : (⟨nm.toArray⟩ : ByteArray).size = nm.length := rfl
    unfold maxLen
    omega
  | int n b h1 h2 => exact fun k hS hB w hb => posof_int n h2 hb (num_S hS)
  | pos a va b h1 h2 h3 ih =>
    intro k hS hB w hb
    obtain ⟨k', hk'⟩ := kids_S hS a (by simp [PT.args])
    exact posof_pos h2 hb fun w' hb' => ih k' hk' (kid_bulk hB (by simp)) w' hb'
  | fin a va b h1 h2 h3 ih =>
    intro k hS hB w hb
    obtain ⟨k', hk'⟩ := kids_S hS a (by simp [PT.args])
    exact posof_fin h2 hb fun w' hb' => ih k' hk' (kid_bulk hB (by simp)) w' hb'
  | last a va b h1 h2 h3 ih =>
    intro k hS hB w hb
    obtain ⟨k', hk'⟩ := kids_S hS a (by simp [PT.args])
    exact posof_last h2 hb fun w' hb' => ih k' hk' (kid_bulk hB (by simp)) w' hb'
  | len a va b h1 h2 h3 ih =>
    intro k hS hB w hb
    obtain ⟨k', hk'⟩ := kids_S hS a (by simp [PT.args])
    exact posof_len h2 hb fun w' hb' => ih k' hk' (kid_bulk hB (by simp)) w' hb'
  | add a c va vc b h1 h2 h3 h4 ih1 ih2 =>
    intro k hS hB w hb
    obtain ⟨k', hk'⟩ := kids_S hS a (by simp [PT.args])
    obtain ⟨k2, hk2⟩ := kids_S hS c (by simp [PT.args])
    exact posof_add h2 hb (fun w' hb' => ih1 k' hk' (kid_bulk hB (by simp)) w' hb') (fun w' hb' => ih2 k2 hk2 (kid_bulk hB (by simp)) w' hb')
  | index a c va vc b h1 h2 h3 h4 ih1 ih2 =>
    intro k hS hB w hb
    obtain ⟨k', hk'⟩ := kids_S hS a (by simp [PT.args])
    obtain ⟨k2, hk2⟩ := kids_S hS c (by simp [PT.args])
    exact posof_index h2 hb (fun w' hb' => ih1 k' hk' (kid_bulk hB (by simp)) w' hb') (fun w' hb' => ih2 k2 hk2 (kid_bulk hB (by simp)) w' hb')
  | ite a c d va vc vd b h1 h2 h3 h4 h5 ih1 ih2 ih3 =>
    intro k hS hB w hb
    obtain ⟨k', hk'⟩ := kids_S hS a (by simp [PT.args])
    obtain ⟨k2, hk2⟩ := kids_S hS c (by simp [PT.args])
    obtain ⟨k3, hk3⟩ := kids_S hS d (by simp [PT.args])
    exact posof_ite h2 hb (fun w' hb' => ih1 k' hk' (kid_bulk hB (by simp)) w' hb') (fun w' hb' => ih2 k2 hk2 (kid_bulk hB (by simp)) w' hb') (fun w' hb' => ih3 k3 hk3 (kid_bulk hB (by simp)) w' hb')
  | choice l vs b g cap h1 h2 h3 h4 h5 h6 h7 ih =>
    intro k hS hB w hb
    have hl : 1 < l.length := many_S hS (.inl rfl)
    refine posof_choice h4 h3 h5 h6 (by omega) (by rw [PT.bulk] at hB; have := len_bulks l; omega) hb fun i hi h2 w' hb' => ?_
    obtain ⟨k', hk'⟩ := kids_S hS l[i] (List.getElem_mem hi)
    exact ih i hi h2 k' hk' (kid_bulk hB (List.getElem_mem hi)) w' hb'
  | nodes l vs b g cap h1 h2 h3 h4 h5 h6 h7 ih =>
    intro k hS hB w hb
    have hl : 1 < l.length := many_S hS (.inr rfl)
    refine posof_nodes h4 h3 h5 h6 (by omega) (by rw [PT.bulk] at hB; have := len_bulks l; omega) hb fun i hi h2 w' hb' => ?_
    obtain ⟨k', hk'⟩ := kids_S hS l[i] (List.getElem_mem hi)
    exact ih i hi h2 k' hk' (kid_bulk hB (List.getElem_mem hi)) w' hb'
/-- What ReadPos comes to. -/
def ReadOut (T : PT) (w : World) (e : Ending) (w' : World) : Prop := ∃ c0 c1 c2 c3, e = .returned (.tuple #[.agg #[c0, c1, c2, c3], .bool true]) ∧ PosAt w' T [c0, c1, c2, c3] ∧ Below w.heap.size w w'
set_option maxHeartbeats 4000000 in
set_option maxRecDepth 100000 in
theorem readpos_any {T : PT} {s : ByteArray} {w : World} (hS : S sP T) (hsz : T.size ≤ 500) (hB : T.bulk ≤ 1048576) (hcl : Clean s.data.toList) (hsp : Spell (toks T) s.data.toList []) (hh : s.data.toList.head? ≠ some 32) (hs : s.size ≤ 1099511627776) (hT : Lib.TabIs Tryd.prog w "unicode.properties" .u8 Lib.propertiesTab) :
    Calls Tryd.prog 9 #[.string s] w (ReadOut T w) := by
  have HP : Hid (∀ o, Calls Tryd.prog 14 #[.string s] (w.alloc o) (Parsed T (w.alloc o))) := fun o => parse_any hS hsz hcl hsp hh hs (tab_below hT (below_alloc w o))
  have HS := Lib.hid hS
  have HB := Lib.hid hB
  clear hS hsz hB hcl hsp hh hs hT
  go_enter Tryd.func9, Tryd.ntmps9
  go_wp2_with fail
  refine (HP.out _).mono ?_
  rintro e w2 ⟨ty, b, rfl, hT, hb2⟩
  have HI : Hid (Calls Tryd.prog 15 #[.iface ty (.pointer (some ⟨b, 0, none⟩))] w2 (PosOut T w2)) := posof_any hT _ HS.out HB.out w2 (Below.refl _ _)
  have hr : obj w2 w.heap.size #[.string ⟨#[]⟩, .string ⟨#[]⟩, .int .i64 0, .slice none 0 0] 24 := (hb2.block w.heap.size (by simp)).trans (heap_alloc_new w _)
  have HR2 := Lib.hid hr
  have HB2 : Hid (Below w.heap.size w w2) := (below_alloc w _).trans (hb2.mono (below_alloc w _).size)
  clear hT hb2 hr
  go_wp2_with fail
  refine HI.out.mono ?_
  rintro e w3 ⟨c0, c1, c2, c3, rfl, hp, hb3⟩
  have hr : obj w3 w.heap.size #[.string ⟨#[]⟩, .string ⟨#[]⟩, .int .i64 0, .slice none 0 0] 24 := (hb3.block w.heap.size (lt_of_heap HR2.out)).trans HR2.out
  have r0 := cells_of_heap hr 0
  have r1 := cells_of_heap hr 1
  have r2 := cells_of_heap hr 2
  have r3 := cells_of_heap hr 3
  have f0 := free_of_heap hr 0
  have f1 := free_of_heap hr 1
  have f2 := free_of_heap hr 2
  have f3 := free_of_heap hr 3
  have HR3 := Lib.hid hr
  have HP3 := Lib.hid hp
  have HB3 := Lib.hid hb3
  obtain ⟨K0, N0, n0, p0, l0, cap0, rfl, rfl, rfl, rfl⟩ : ∃ (K0 N0 : ByteArray) (n0 : Int) (p0 : Option Addr) (l0 cap0 : Nat), c0 = .string K0 ∧ c1 = .string N0 ∧ c2 = .int .i64 n0 ∧ c3 = .slice p0 l0 cap0 := by
    cases hp with
    | mk K N n l p cap css h1 h2 h3 h4 h5 h6 h7 => exact ⟨K, N, n, p, l.length, cap, rfl, rfl, rfl, rfl⟩
  clear hr hp hb3
  go_wp2_with fail
  show bodyPost _ _ _ .ret _ (put4 w3 w.heap.size (.string K0) (.string N0) (.int .i64 n0) (.slice p0 l0 cap0))
  have hpg := put4_grown w3 w.heap.size (.string K0) (.string N0) (.int .i64 n0) (.slice p0 l0 cap0)
  have hq := put4_heap HR3.out (.string K0) (.string N0) (.int .i64 n0) (.slice p0 l0 cap0)
  refine bodyPost_ret (v := .tuple #[.agg #[.string K0, .string N0, .int .i64 n0, .slice p0 l0 cap0], .bool true]) (by simp [results, Tryd.results9, go_sem, cells_of_heap hq 0, cells_of_heap hq 1, cells_of_heap hq 2, cells_of_heap hq 3, Result.andThen]) rfl ⟨_, _, _, _, rfl, ?_, below_row (HB2.out.trans (HB3.out.mono HB2.out.size)) hpg (Nat.le_refl _)⟩
  refine (HP3.out.grown hpg fun b' _ hb e => ?_).weak
  have h1 : w2.heap.size ≤ b' := hb
  have h2 : b' = w.heap.size := by simpa using e
  have h3 := lt_of_heap HR2.out
  omega
end Go.Proofs.YtkcpfgnfhbbhhaaDoor.po
