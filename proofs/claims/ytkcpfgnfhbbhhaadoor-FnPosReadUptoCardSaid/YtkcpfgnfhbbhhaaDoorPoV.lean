/-
  The law laws.FnPosRead. Conditions: in the statement.
-/
import Derived.Test.YtkcpfgnfhbbhhaaDoorPoU
set_option linter.unusedVariables false
set_option linter.unusedSimpArgs false
namespace Go.Proofs.YtkcpfgnfhbbhhaaDoor.po
open Go.RowKit

/-- The bytes of the gaps. -/
def GapsAt (W : World) (p : Option Addr) (lg : Nat) : Prop := ∀ i, i < lg → ∃ b o, p = some ⟨b, o, none⟩ ∧ b < W.heap.size ∧ ∃ u : Nat, u < 256 ∧ W.cell? ⟨b, o + i, none⟩ = some (.int .u8 (u : Int))
theorem GapsAt.on {W W' : World} {p : Option Addr} {lg : Nat} (h : GapsAt W p lg) (hb : Below W.heap.size W W') : GapsAt W' p lg := fun i hi => by
  obtain ⟨b, o, e, hlt, u, hu, hc⟩ := h i hi
  exact ⟨b, o, e, Nat.lt_of_lt_of_le hlt hb.size, u, hu, (hb.cell (p := ⟨b, o + i, none⟩) hlt).trans hc⟩
/-- How many blanks there are ahead of the i-th token: the gaps in memory give them. -/
theorem gaps_fn {W : World} {p : Option Addr} {lg : Nat} (h : GapsAt W p lg) : ∃ g : Nat → Nat, (∀ i, g i ≤ 2) ∧ (lg = 0 → ∀ i, g i = 0) ∧ (0 < lg → ∀ i, ∃ b o, p = some ⟨b, o, none⟩ ∧ b < W.heap.size ∧ ∃ u : Nat, u < 256 ∧ u % 3 = g i ∧ W.cell? ⟨b, o + i % lg, none⟩ = some (.int .u8 (u : Int))) := by
  rcases Nat.eq_zero_or_pos lg with h0 | h0
  · exact ⟨fun _ => 0, fun _ => Nat.zero_le _, fun _ _ => rfl, fun hp => by omega⟩
  have h1 : ∀ i, ∃ u : Nat, ∃ b o, p = some ⟨b, o, none⟩ ∧ b < W.heap.size ∧ u < 256 ∧ W.cell? ⟨b, o + i % lg, none⟩ = some (.int .u8 (u : Int)) := fun i => by
    obtain ⟨b, o, e, hlt, u, hu, hc⟩ := h (i % lg) (Nat.mod_lt _ h0)
    exact ⟨u, b, o, e, hlt, hu, hc⟩
  refine ⟨fun i => (Classical.choose (h1 i)) % 3, fun i => Nat.le_of_lt_succ (Nat.mod_lt _ (by decide)), fun e => by omega, fun _ i => ?_⟩
  obtain ⟨b, o, e, hlt, hu, hc⟩ := Classical.choose_spec (h1 i)
  exact ⟨b, o, e, hlt, _, hu, rfl, hc⟩
theorem text_step (g : Nat → Nat) (l : List Bs) (i : Nat) (hi : i < l.length) : text g (l.take (i + 1)) = if i = 0 then l[i] else text g (l.take i) ++ (List.replicate (g i) 32 ++ l[i]) := by
  rw [List.take_succ_eq_append_getElem hi]
  split
  · rename_i h
    subst h
    rw [List.take_zero, List.nil_append, text_one]
  · rename_i h
    have e : (l.take i).length = i := by rw [List.length_take]; omega
    rw [text_snoc g _ (by intro h0; rw [h0] at e; simp at e; omega), e]
theorem flat_take (l : List Bs) (i : Nat) : (l.take i).flatten.length ≤ l.flatten.length := by
  have h : (l.take i ++ l.drop i).flatten = l.flatten := by rw [List.take_append_drop]
  rw [← h, List.flatten_append, List.length_append]
  omega
theorem flat_mem {l : List Bs} {w : Bs} (h : w ∈ l) : w.length ≤ l.flatten.length := by
  induction l with
  | nil => cases h
  | cons x r ih =>
    rw [List.flatten_cons, List.length_append]
    rcases List.mem_cons.1 h with rfl | h
    · omega
    · have := ih h
      omega
theorem text_small {g : Nat → Nat} (hg : ∀ i, g i ≤ 2) {l : List Bs} {n : Nat} (hl : l.length ≤ 3000) (hf : l.flatten.length + 2 ≤ 20 * 1048576) (s : ByteArray) (h : s.data.toList = text g (l.take n)) : s.size ≤ 1099511627776 := by
  have h1 := text_len g hg (l.take n)
  have h2 := flat_take l n
  have h3 : (l.take n).length ≤ l.length := by rw [List.length_take]; omega
  have h4 : s.size = s.data.toList.length := Array.length_toList.symm
  rw [h4, h]
  omega
theorem bytes_append (a b : ByteArray) : (a ++ b).data.toList = a.data.toList ++ b.data.toList := by
  simp [ByteArray.data_append]
def blank (r : Nat) : ByteArray := ⟨(List.replicate r 32).toArray⟩
set_option maxHeartbeats 8000000 in
set_option maxRecDepth 100000 in
theorem law_any {T : PT} {W : World} {a0 a1 a2 a3 : Value} {pg : Option Addr} {lg cg : Nat} (ha : PosAt W T [a0, a1, a2, a3]) (hB : T.bulk ≤ 1048576) (hg : GapsAt W pg lg) (hlg : lg ≤ 1048576) (hT : Lib.TabIs Tryd.prog W "unicode.properties" .u8 Lib.propertiesTab) :
    Calls Tryd.prog 3 #[.agg #[a0, a1, a2, a3], .slice pg lg cg] W fun e W' => e = .returned (.bool true) ∧ Below W.heap.size W W' := by
  obtain ⟨K0, N0, n0, p0, l0, cap0, rfl, rfl, rfl, rfl⟩ : ∃ (K0 N0 : ByteArray) (n0 : Int) (p0 : Option Addr) (l0 cap0 : Nat), a0 = .string K0 ∧ a1 = .string N0 ∧ a2 = .int .i64 n0 ∧ a3 = .slice p0 l0 cap0 := by
    cases ha with
    | mk K N n l p cap css h1 h2 h3 h4 h5 h6 h7 => exact ⟨K, N, n, p, l.length, cap, rfl, rfl, rfl, rfl⟩
  have HA := Lib.hid ha
  have HBk := Lib.hid hB
  have HG := Lib.hid hg
  have HT := Lib.hid hT
  have hsz : T.size ≤ 1048576 := Nat.le_trans (size_le_bulk T) hB
  have HZ := Lib.hid hsz
  have HF : Hid (∀ o, Calls Tryd.prog 4 #[.agg #[.string K0, .string N0, .int .i64 n0, .slice p0 l0 cap0]] (W.alloc o) fun e W' => e = .returned (.bool true) ∧ Below (W.alloc o).heap.size (W.alloc o) W') := fun o => fits_any (ha.on (below_alloc W o)) hB
  have z1 : ¬ (2147483647 : Int) < (lg : Int) := by omega
  clear ha hB hg hT
  go_enter Tryd.func3, Tryd.ntmps3
  go_wp2_with fail
  refine (HF.out _).mono ?_
  rintro e w2 ⟨rfl, hb2⟩
  have HB2 : Hid (Below W.heap.size W w2) := (below_alloc W _).trans (hb2.mono (below_alloc W _).size)
  have HR2 : Hid (obj w2 W.heap.size #[.string K0, .string N0, .int .i64 n0, .slice p0 l0 cap0] 24) := (hb2.block W.heap.size (by simp)).trans (heap_alloc_new W _)
  have r0 := cells_of_heap HR2.out 0
  have r1 := cells_of_heap HR2.out 1
  have r2 := cells_of_heap HR2.out 2
  have r3 := cells_of_heap HR2.out 3
  clear hb2 HF
  have HC := Lib.hid (posSize_any T w2 _ _ _ _ (HA.out.on HB2.out) hsz)
  go_wp2_with fail
  refine HC.out.mono ?_
  rintro e w3 ⟨rfl, hb3⟩
  have HB3 : Hid (Below W.heap.size W w3) := HB2.out.trans (hb3.mono HB2.out.size)
  have HR3 : Hid (obj w3 W.heap.size #[.string K0, .string N0, .int .i64 n0, .slice p0 l0 cap0] 24) := (hb3.block W.heap.size (lt_of_heap HR2.out)).trans HR2.out
  clear r0 r1 r2 r3 hb3 HC
  have HQ : Hid (∀ w, Below W.heap.size W w → Calls Tryd.prog 7 #[] w fun e W' => e = .returned (.bool true) ∧ Below w.heap.size w W') := fun w hb => reads_any (tab_below HT.out hb)
  by_cases hbig : (500 : Int) < (T.size : Int)
  · go_wp2_with fail
    refine (HQ.out w3 HB3.out).mono ?_
    rintro e w4 ⟨rfl, hb4⟩
    have HB4 := Lib.hid hb4
    clear hb4
    go_wp2_with fail
    go_ret
    exact ⟨rfl, HB3.out.trans (HB4.out.mono HB3.out.size)⟩
  have r0 := cells_of_heap HR3.out 0
  have r1 := cells_of_heap HR3.out 1
  have r2 := cells_of_heap HR3.out 2
  have r3 := cells_of_heap HR3.out 3
  have HC : Hid (Calls Tryd.prog 6 #[.agg #[.string K0, .string N0, .int .i64 n0, .slice p0 l0 cap0], .string ⟨#[112]⟩] w3 fun e W' => Sorted T sP w3.heap.size w3 e W') := sort_any T w3 _ _ _ _ ⟨#[112]⟩ (HA.out.on HB3.out) HBk.out (by decide)
  go_wp2_with fail
  refine HC.out.mono ?_
  rintro e w4 ⟨b, rfl, hs, hb4⟩
  have HB4 : Hid (Below W.heap.size W w4) := HB3.out.trans (hb4.mono HB3.out.size)
  have HR4 : Hid (obj w4 W.heap.size #[.string K0, .string N0, .int .i64 n0, .slice p0 l0 cap0] 24) := (hb4.block W.heap.size (lt_of_heap HR3.out)).trans HR3.out
  clear r0 r1 r2 r3 hb4 HC
  cases b with
  | false =>
    clear hs
    go_wp2_with fail
    refine (HQ.out w4 HB4.out).mono ?_
    rintro e w5 ⟨rfl, hb5⟩
    have HB5 := Lib.hid hb5
    clear hb5
    go_wp2_with fail
    go_ret
    exact ⟨rfl, HB4.out.trans (HB5.out.mono HB4.out.size)⟩
  | true =>
  have HS : Hid (S sP T) := hs rfl
  have hsz2 : T.size ≤ 500 := by omega
  have HZ2 := Lib.hid hsz2
  have r0 := cells_of_heap HR4.out 0
  have r1 := cells_of_heap HR4.out 1
  have r2 := cells_of_heap HR4.out 2
  have r3 := cells_of_heap HR4.out 3
  have HC : Hid (Calls Tryd.prog 8 #[.agg #[.string K0, .string N0, .int .i64 n0, .slice p0 l0 cap0]] w4 (TokOut T w4)) := tok_any HS.out HZ2.out w4 _ _ _ _ (HA.out.on HB4.out)
  clear hs hsz2 HQ
  go_wp2_with fail
  refine HC.out.mono ?_
  rintro e w5 ⟨gb, cap, rfl, hrow, hb5⟩
  have HB5 : Hid (Below W.heap.size W w5) := HB4.out.trans (hb5.mono HB4.out.size)
  have HR5 : Hid (obj w5 W.heap.size #[.string K0, .string N0, .int .i64 n0, .slice p0 l0 cap0] 24) := (hb5.block W.heap.size (lt_of_heap HR4.out)).trans HR4.out
  have HN := Lib.hid (row_news (by simpa using hrow))
  have HL : Hid (gb < w5.heap.size) := (own_lt4 hrow gb rfl).2
  have hlen : (toks T).length ≤ 3000 := short_toks HS.out HZ2.out
  obtain ⟨m, hm⟩ : ∃ m, m = (toks T).length := ⟨_, rfl⟩
  rw [← hm] at hlen
  have HM := Lib.hid hm
  obtain ⟨g, hg2, hg0, hgp⟩ := gaps_fn HG.out
  have HG2 := Lib.hid hg2
  have HG0 := Lib.hid hg0
  have HGP := Lib.hid hgp
  clear r0 r1 r2 r3 hrow hb5 HC hg2 hg0 hgp
  rw [show (.slice (some ⟨gb, 0, none⟩) (toks T).length cap : Value) = .slice (some ⟨gb, 0, none⟩) m cap by rw [hm]]
  clear hm
  have HZ3 : Hid ((toks T).flatten.length + 2 ≤ 20 * 1048576) := Nat.le_trans (toks_flat HS.out) (Nat.mul_le_mul_left 20 HBk.out)
  go_wp2_with fail
  go_loopw [5, 30] (fun sv iv wr => ∃ (i : Nat) (s : ByteArray), i ≤ m ∧ iv = .int .i64 (i : Int) ∧ sv = .string s ∧ Hid (s.data.toList = text g ((toks T).take i)) ∧ s.size ≤ 1099511627776 ∧ Hid (Below w5.heap.size w5 wr)) (fun _ iv _ => m - (intOf iv).toNat)
  case atStart => exact ⟨0, ⟨#[]⟩, Nat.zero_le _, rfl, rfl, rfl, by decide, Below.refl _ _⟩
  case round =>
    rename World => wo
    obtain ⟨i, s, hi, rfl, rfl, HX, hss, HO⟩ := hrel
    by_cases hlt : i < m
    · have hz : (i : Int) < (m : Int) := by omega
      have hz0 : (0 : Int) ≤ (i : Int) := by omega
      have hil : i < (toks T).length := by have := HM.out; omega
      obtain ⟨tk, htk⟩ : ∃ tk : Bs, tk = (toks T)[i] := ⟨_, rfl⟩
      have htl : (⟨tk.toArray⟩ : ByteArray).size ≤ 1099511627776 := by
        have h1 := flat_mem (List.getElem_mem hil)
        rw [← htk] at h1
        have h2 := HZ3.out
        have h3 : (⟨tk.toArray⟩ : ByteArray).size = tk.length := rfl
        omega
      have HCK : Hid (∀ w', Below wo.heap.size wo w' → w'.cell? ⟨gb, i, none⟩ = some (.string ⟨tk.toArray⟩)) := fun w' hb => by
        have hu : ((toks T).map strV)[i]? = some (.string ⟨tk.toArray⟩) := by
          rw [List.getElem?_map, List.getElem?_eq_getElem hil, htk]
          rfl
        have h1 := HN.out i _ hu
        rw [add_none, Nat.zero_add] at h1
        exact ((HO.out.trans (hb.mono HO.out.size)).cell (p := ⟨gb, i, none⟩) HL.out).trans h1
      have q := HCK.out _ (Below.refl _ wo)
      have HSM : Hid (∀ s' : ByteArray, s'.data.toList = text g ((toks T).take (i + 1)) → s'.size ≤ 1099511627776) := fun s' h => text_small HG2.out (by have := HM.out; omega) HZ3.out s' h
      have HTX : Hid (text g ((toks T).take (i + 1)) = if i = 0 then tk else text g ((toks T).take i) ++ (List.replicate (g i) 32 ++ tk)) := by rw [htk]; exact text_step g _ i hil
      clear htk hil
      rcases Nat.eq_zero_or_pos i with h0 | h0
      · subst h0
        go_wp2_with fail
        have hT1 : (s ++ ⟨tk.toArray⟩ : ByteArray).data.toList = text g ((toks T).take (0 + 1)) := by
          rw [HTX.out, if_pos rfl, bytes_append, HX.out, List.take_zero, text]
          simp
        exact ⟨⟨1, _, hlt, rfl, rfl, Lib.hid hT1, HSM.out _ hT1, HO⟩, by simp [intOf]; omega⟩
      · have hz2 : (0 : Int) < (i : Int) := by omega
        rcases Nat.eq_zero_or_pos lg with hl0 | hl0
        · subst hl0
          have hgi := HG0.out rfl i
          go_wp2_with fail
          have hT1 : (s ++ ⟨tk.toArray⟩ : ByteArray).data.toList = text g ((toks T).take (i + 1)) := by
            rw [HTX.out, if_neg (by omega), bytes_append, HX.out, hgi]
            simp
          exact ⟨⟨i + 1, _, hlt, by go_num, rfl, Lib.hid hT1, HSM.out _ hT1, HO⟩, by simp [intOf]; omega⟩
        · have hz3 : (0 : Int) < (lg : Int) := by omega
          obtain ⟨gp, go, rfl, hgb, u, hu, hur, hq⟩ := HGP.out hl0 i
          have hbd : 0 ≤ (i : Int) % (lg : Int) ∧ (i : Int) % (lg : Int) < (lg : Int) := ⟨Int.emod_nonneg _ (by omega), Int.emod_lt_of_pos _ hz3⟩
          have hq1 : ∀ o, (wo.alloc o).cell? ⟨gp, go + i % lg, none⟩ = some (.int .u8 (u : Int)) := fun o => ((HB5.out.trans (HO.out.mono HB5.out.size)).trans ((below_alloc wo o).mono (HB5.out.trans (HO.out.mono HB5.out.size)).size)).cell (p := ⟨gp, go + i % lg, none⟩) hgb |>.trans hq
          have hq2 : ([.string ⟨#[]⟩, .string ⟨#[32]⟩, .string ⟨#[32, 32]⟩] : List Value)[g i]? = some (.string (blank (g i))) := by
            have h3 : g i < 3 := by omega
            match g i, h3 with
            | 0, _ => rfl
            | 1, _ => rfl
            | 2, _ => rfl
          have hbs : (blank (g i)).size ≤ 1099511627776 := by
            have h3 : (blank (g i)).size = g i := by simp [blank, ByteArray.size]
            omega
          have hb3 : 0 ≤ (u : Int) % 3 ∧ (u : Int) % 3 < 3 := by omega
          have hsum : ¬ 9223372036854775807 < s.size + (blank (g i)).size + tk.length := by
            have h3 : (⟨tk.toArray⟩ : ByteArray).size = tk.length := rfl
            omega
          clear hq
          go_wp2_with fail
          have hT1 : (s ++ blank (g i) ++ ⟨tk.toArray⟩ : ByteArray).data.toList = text g ((toks T).take (i + 1)) := by
            rw [HTX.out, if_neg (by omega), bytes_append, bytes_append, HX.out, List.append_assoc]
            rfl
          exact ⟨⟨i + 1, _, hlt, by go_num, rfl, Lib.hid hT1, HSM.out _ hT1, HO.out.alloc HO.out.size _⟩, by simp [intOf]; omega⟩
    · have hz : ¬ (i : Int) < (m : Int) := by omega
      obtain rfl : i = m := by omega
      have HTE : Hid (s.data.toList = text g (toks T)) := by
        have h := HX.out
        rwa [List.take_of_length_le (by have := HM.out; omega)] at h
      have HWO : Hid (Below W.heap.size W wo) := HB5.out.trans (HO.out.mono HB5.out.size)
      have HRO : Hid (obj wo W.heap.size #[.string K0, .string N0, .int .i64 n0, .slice p0 l0 cap0] 24) := (HO.out.block W.heap.size (lt_of_heap HR5.out)).trans HR5.out
      have HP : Hid (Calls Tryd.prog 9 #[.string s] wo (ReadOut T wo)) := by
        have hf := toks_fine HS.out
        have h := HTE.out
        exact readpos_any HS.out HZ2.out HBk.out (by rw [h]; exact text_clean g (toks_ok HS.out)) (by rw [h]; exact spell_text g hf) (by rw [h]; exact text_head g hf) hss (tab_below HT.out HWO.out)
      clear hlt
      go_wp2_with fail
      refine HP.out.mono ?_
      rintro e w6 ⟨b0, b1, b2, b3, rfl, hp6, hb6⟩
      have HB6 : Hid (Below W.heap.size W w6) := HWO.out.trans (hb6.mono HWO.out.size)
      have HR6 : Hid (obj w6 W.heap.size #[.string K0, .string N0, .int .i64 n0, .slice p0 l0 cap0] 24) := (hb6.block W.heap.size (lt_of_heap HRO.out)).trans HRO.out
      obtain ⟨K1, N1, n1, p1, l1, cap1, rfl, rfl, rfl, rfl⟩ : ∃ (K1 N1 : ByteArray) (n1 : Int) (p1 : Option Addr) (l1 cap1 : Nat), b0 = .string K1 ∧ b1 = .string N1 ∧ b2 = .int .i64 n1 ∧ b3 = .slice p1 l1 cap1 := by
        cases hp6 with
        | mk K N n l p cap css h1 h2 h3 h4 h5 h6 h7 => exact ⟨K, N, n, p, l.length, cap, rfl, rfl, rfl, rfl⟩
      have HP6 := Lib.hid hp6
      have HE : Hid (∀ w7, Below w6.heap.size w6 w7 → Calls Tryd.prog 10 #[.agg #[.string K0, .string N0, .int .i64 n0, .slice p0 l0 cap0], .agg #[.string K1, .string N1, .int .i64 n1, .slice p1 l1 cap1]] w7 fun e W' => e = .returned (.bool true) ∧ Below w7.heap.size w7 W') := fun w7 hb => same_any T w7 _ _ _ _ _ _ _ _ (HA.out.on (HB6.out.trans (hb.mono HB6.out.size))) (HP6.out.on hb) HBk.out
      have HC6 : Hid (∀ o, obj (w6.alloc o) W.heap.size #[.string K0, .string N0, .int .i64 n0, .slice p0 l0 cap0] 24) := fun o => ((below_alloc w6 o).block W.heap.size (lt_of_heap HR6.out)).trans HR6.out
      have r0 : ∀ o, (w6.alloc o).cell? ⟨W.heap.size, 0, none⟩ = some (.string K0) := fun o => cells_of_heap (HC6.out o) 0
      have r1 : ∀ o, (w6.alloc o).cell? ⟨W.heap.size, 1, none⟩ = some (.string N0) := fun o => cells_of_heap (HC6.out o) 1
      have r2 : ∀ o, (w6.alloc o).cell? ⟨W.heap.size, 2, none⟩ = some (.int .i64 n0) := fun o => cells_of_heap (HC6.out o) 2
      have r3 : ∀ o, (w6.alloc o).cell? ⟨W.heap.size, 3, none⟩ = some (.slice p0 l0 cap0) := fun o => cells_of_heap (HC6.out o) 3
      clear hp6 hb6
      go_wp2_with fail
      refine (HE.out _ (below_alloc _ _)).mono ?_
      rintro e w7 ⟨rfl, hb7⟩
      have HB7 : Hid (Below w6.heap.size w6 w7) := (below_alloc w6 _).trans (hb7.mono (below_alloc w6 _).size)
      clear hb7
      go_wp2_with fail
      go_ret
      exact ⟨rfl, HB6.out.trans (HB7.out.mono HB6.out.size)⟩
end Go.Proofs.YtkcpfgnfhbbhhaaDoor.po
