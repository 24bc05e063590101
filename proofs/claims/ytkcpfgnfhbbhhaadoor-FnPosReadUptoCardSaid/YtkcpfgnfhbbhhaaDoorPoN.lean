/-
  laws.posTokens at choices of places and of nodes. Conditions: in the statements.
-/
import Derived.Test.YtkcpfgnfhbbhhaaDoorPoI
set_option linter.unusedVariables false
set_option linter.unusedSimpArgs false
namespace Go.Proofs.YtkcpfgnfhbbhhaaDoor.po
open Go.RowKit

theorem more_snoc (s : Bs) (x : PT) : ∀ l : List PT, toksMore s (l ++ [x]) = toksMore s l ++ s :: toks x
  | [] => by rw [List.nil_append, toksMore, toksMore, toksMore]; simp
  | y :: r => by
    rw [List.cons_append, toksMore, toksMore, more_snoc s x r]
    simp
theorem sep_snoc (s : Bs) (x : PT) {l : List PT} (h : l ≠ []) : toksSep s (l ++ [x]) = toksSep s l ++ [s] ++ toks x := by
  cases l with
  | nil => exact absurd rfl h
  | cons y r =>
    rw [List.cons_append, toksSep, toksSep, more_snoc]
    simp
theorem sep_one (s : Bs) (x : PT) : toksSep s [x] = toks x := by rw [toksSep, toksMore, List.append_nil]
theorem take_one {l : List PT} {i : Nat} (h : i < l.length) : l.take (i + 1) = l.take i ++ [l[i]] := by
  rw [List.take_add_one, List.getElem?_eq_getElem h]
  rfl
theorem sep_mono (s : Bs) (l : List PT) (i : Nat) : (toksSep s (l.take i)).length ≤ (toksSep s l).length := by
  cases l with
  | nil => simp
  | cons x r =>
    cases i with
    | zero => rw [List.take_zero, toksSep]; simp
    | succ i =>
      rw [List.take_succ_cons, toksSep, toksSep]
      have key : ∀ (r : List PT) (i : Nat), (toksMore s (r.take i)).length ≤ (toksMore s r).length := by
        intro r
        induction r with
        | nil => intro i; simp
        | cons y r ih =>
          intro i
          cases i with
          | zero => rw [List.take_zero, toksMore]; simp
          | succ i =>
            rw [List.take_succ_cons, toksMore, toksMore]
            have := ih i
            simp
            omega
      have := key r i
      simp
      omega
set_option maxHeartbeats 4000000 in
set_option maxRecDepth 100000 in
theorem tok_choice {w : World} {l : List PT} {p : Option Addr} {cap : Nat} (h : TAsk w l p) (h0 : 0 < l.length) (hm1 : l.length ≤ 500) (hlen : (toksSep tBar l).length ≤ 3000) (hpos : 0 < (toksSep tBar l).length) : Calls Tryd.prog 8 #[.agg #[.string ⟨#[99, 104, 111, 105, 99, 101]⟩, .string ⟨#[]⟩, .int .i64 0, .slice p l.length cap]] w (TokOut (.mk kChoice [] 0 l) w) := by
  obtain ⟨m, hm⟩ : ∃ m, m = l.length := ⟨_, rfl⟩
  rw [← hm] at hm1 ⊢
  have HM := Lib.hid hm
  have H0 := Lib.hid h0
  have HLEN := Lib.hid hlen
  have HPOS := Lib.hid hpos
  obtain ⟨w1, hw1⟩ : ∃ w1, w1 = w.alloc (.cells #[.string ⟨#[99, 104, 111, 105, 99, 101]⟩, .string ⟨#[]⟩, .int .i64 0, .slice p m cap] 24) := ⟨_, rfl⟩
  have hw : Below w.heap.size w w1 := by rw [hw1]; exact below_alloc w _
  have HW := Lib.hid hw
  have HW1 := Lib.hid hw1
  have hbx : obj w1 w.heap.size #[.string ⟨#[99, 104, 111, 105, 99, 101]⟩, .string ⟨#[]⟩, .int .i64 0, .slice p m cap] 24 := by rw [hw1]; exact heap_alloc_new w _
  have HZ0 : Hid (∀ W, Below w1.heap.size w1 W → W.cell? ⟨w.heap.size, 0, none⟩ = some (.string ⟨#[99, 104, 111, 105, 99, 101]⟩)) := fun W hW => (hW.cell (p := ⟨w.heap.size, 0, none⟩) (lt_of_heap hbx)).trans (cells_of_heap hbx 0)
  have HZ : Hid (∀ W, Below w1.heap.size w1 W → W.cell? ⟨w.heap.size, 3, none⟩ = some (.slice p m cap)) := fun W hW => (hW.cell (p := ⟨w.heap.size, 3, none⟩) (lt_of_heap hbx)).trans (cells_of_heap hbx 3)
  have HA := Lib.hid h
  clear hm h0 hlen hpos hw1 hbx hw h
  go_enter Tryd.func8, Tryd.ntmps8
  go_wp2_with fail
  rw [← HW1.out]
  go_loopw [3, 114] (fun v iv wr => ∃ i : Nat, i ≤ m ∧ iv = .int .i64 (i : Int) ∧ Hid (TS w1 wr v (toksSep tBar (l.take i)))) (fun _ iv _ => m - (intOf iv).toNat)
  case atStart => exact ⟨0, Nat.zero_le _, rfl, by rw [List.take_zero, toksSep]; exact ⟨Below.refl _ _, rfl, .inl ⟨rfl, rfl⟩⟩⟩
  case round =>
    rename World => wo
    obtain ⟨i, hi, rfl, HT⟩ := hrel
    have z3 := HZ.out _ HT.out.below
    have z0 := HZ0.out _ HT.out.below
    by_cases hlt : i < m
    · have hz : (i : Int) < (m : Int) := by omega
      have hz0 : (0 : Int) ≤ (i : Int) := by omega
      have hil : i < l.length := by have := HM.out; omega
      obtain ⟨b, o, c0, c1, c2, c3, rfl, hq, hc⟩ := HA.out.call HW.out i hil
      have HQ := Lib.hid hq
      have HC := Lib.hid hc
      have hbd := sep_mono tBar l (i + 1)
      have hln := HLEN.out
      rw [take_one hil] at hbd
      obtain ⟨x, hx⟩ : ∃ x, x = l[i] := ⟨_, rfl⟩
      have HX := Lib.hid hx
      rw [← hx] at HC hbd
      clear hq hc hx
      by_cases hi0 : i = 0
      · subst hi0
        have HE : Hid (toksSep tBar (l.take 1) = [] ++ toks x) := by
          show _ = _
          rw [take_one hil, ← show x = l[0] from HX.out, List.take_zero, List.nil_append, sep_one]
          rfl
        have hbd2 : (toks x).length ≤ 3000 := by
          rw [List.take_zero, List.nil_append, sep_one] at hbd
          omega
        have HT0 : Hid (TS w1 wo u3 []) := by
          have := HT.out
          rw [List.take_zero, toksSep] at this
          exact this
        obtain ⟨x0, x1, x2, x3⟩ : wo.cell? ⟨b, o, none⟩ = some c0 ∧ wo.cell? ⟨b, o + 1, none⟩ = some c1 ∧ wo.cell? ⟨b, o + 2, none⟩ = some c2 ∧ wo.cell? ⟨b, o + 3, none⟩ = some c3 := by simpa using HQ.out _ HT.out.below
        clear hbd hln HX hil
        go_wp2_with fail
        refine (HC.out _ HT0.out.below).mono ?_
        rintro e w5 ⟨g5, k5, rfl, hr, hb2⟩
        have HR5 := Lib.hid hr
        have HT5 := Lib.hid (HT0.out.on hb2)
        clear hr hb2
        go_wp2_with (first | (at_builtin; refine wpList_append_texts rfl _ _ rfl _ [] rfl HT5.out (toks x) ⟨g5, 0, none⟩ k5 rfl (row_news HR5.out) (by simp; omega) ?_; intro v6 w6 hts hg3 hn3; have HT6 := Lib.hid hts; clear hts hg3 hn3))
        exact ⟨⟨1, by omega, by go_num, by rw [HE.out]; exact HT6.out⟩, by simp [intOf]; omega⟩
      · have hi1 : (0 : Int) < (i : Int) := by omega
        have hne : l.take i ≠ [] := fun e => by
          have : (l.take i).length = i := by simp; omega
          rw [e] at this
          simp at this
          omega
        have HE : Hid (toksSep tBar (l.take (i + 1)) = toksSep tBar (l.take i) ++ [tBar] ++ toks x) := by
          show _ = _
          rw [take_one hil, ← show x = l[i] from HX.out, sep_snoc _ _ hne]
        have hbd2 : (toksSep tBar (l.take i)).length + 1 + (toks x).length ≤ 3000 := by
          rw [sep_snoc _ _ hne] at hbd
          simp only [List.length_append, List.length_cons, List.length_nil] at hbd
          omega
        obtain ⟨ts, hts⟩ : ∃ ts, ts = toksSep tBar (l.take i) := ⟨_, rfl⟩
        rw [← hts] at HT HE hbd2
        have tok1 : True := trivial
        clear hbd hln HX hil hne hts
        go_wp2_with (first
          | (at_builtin; have _t := tok1; refine wpList_append_texts rfl _ _ rfl _ ts rfl (HT.out.on (below_alloc wo _)) [tBar] ⟨wo.heap.size, 0, none⟩ 1 rfl (World.news_of_block (heap_alloc_new wo _)) (by simp; omega) ?_; intro v4 w4 hts hg3 hn3; have HT4 := Lib.hid hts; obtain ⟨x0, x1, x2, x3⟩ := HQ.out _ hts.below; have y3 := HZ.out _ hts.below; clear hts hg3 hn3 tok1))
        refine (HC.out _ HT4.out.below).mono ?_
        rintro e w5 ⟨g5, k5, rfl, hr, hb2⟩
        have HR5 := Lib.hid hr
        have HT5 := Lib.hid (HT4.out.on hb2)
        clear hr hb2
        go_wp2_with (first | (at_builtin; refine wpList_append_texts rfl _ _ rfl _ (ts ++ [tBar]) rfl HT5.out (toks x) ⟨g5, 0, none⟩ k5 rfl (row_news HR5.out) (by simp; omega) ?_; intro v6 w6 hts hg3 hn3; have HT6 := Lib.hid hts; clear hts hg3 hn3))
        exact ⟨⟨i + 1, by omega, by go_num, by rw [HE.out]; exact HT6.out⟩, by simp [intOf]; omega⟩
    · have hz : ¬ (i : Int) < (m : Int) := by omega
      have him : i = l.length := by have := HM.out; omega
      have HT9 : Hid (TS w1 wo u3 (toksSep tBar l)) := by
        have := HT.out
        rw [him, List.take_length] at this
        exact this
      have hsl := HPOS.out
      obtain ⟨g9, k9, rfl⟩ := HT9.out.form hsl
      have hln := HLEN.out
      clear him
      go_wp2_with fail
      go_ret
      exact tok_end HW.out (toks_choice l) rfl HT9.out
set_option maxHeartbeats 4000000 in
set_option maxRecDepth 100000 in
theorem tok_nodes {w : World} {l : List PT} {p : Option Addr} {cap : Nat} (h : TAsk w l p) (h0 : 0 < l.length) (hm1 : l.length ≤ 500) (hlen : (toksSep tQQ l).length ≤ 3000) (hpos : 0 < (toksSep tQQ l).length) : Calls Tryd.prog 8 #[.agg #[.string ⟨#[110, 111, 100, 101, 115]⟩, .string ⟨#[]⟩, .int .i64 0, .slice p l.length cap]] w (TokOut (.mk kNodes [] 0 l) w) := by
  obtain ⟨m, hm⟩ : ∃ m, m = l.length := ⟨_, rfl⟩
  rw [← hm] at hm1 ⊢
  have HM := Lib.hid hm
  have H0 := Lib.hid h0
  have HLEN := Lib.hid hlen
  have HPOS := Lib.hid hpos
  obtain ⟨w1, hw1⟩ : ∃ w1, w1 = w.alloc (.cells #[.string ⟨#[110, 111, 100, 101, 115]⟩, .string ⟨#[]⟩, .int .i64 0, .slice p m cap] 24) := ⟨_, rfl⟩
  have hw : Below w.heap.size w w1 := by rw [hw1]; exact below_alloc w _
  have HW := Lib.hid hw
  have HW1 := Lib.hid hw1
  have hbx : obj w1 w.heap.size #[.string ⟨#[110, 111, 100, 101, 115]⟩, .string ⟨#[]⟩, .int .i64 0, .slice p m cap] 24 := by rw [hw1]; exact heap_alloc_new w _
  have HZ0 : Hid (∀ W, Below w1.heap.size w1 W → W.cell? ⟨w.heap.size, 0, none⟩ = some (.string ⟨#[110, 111, 100, 101, 115]⟩)) := fun W hW => (hW.cell (p := ⟨w.heap.size, 0, none⟩) (lt_of_heap hbx)).trans (cells_of_heap hbx 0)
  have HZ : Hid (∀ W, Below w1.heap.size w1 W → W.cell? ⟨w.heap.size, 3, none⟩ = some (.slice p m cap)) := fun W hW => (hW.cell (p := ⟨w.heap.size, 3, none⟩) (lt_of_heap hbx)).trans (cells_of_heap hbx 3)
  have HA := Lib.hid h
  clear hm h0 hlen hpos hw1 hbx hw h
  go_enter Tryd.func8, Tryd.ntmps8
  go_wp2_with fail
  rw [← HW1.out]
  go_loopw [3, 114] (fun v iv wr => ∃ i : Nat, i ≤ m ∧ iv = .int .i64 (i : Int) ∧ Hid (TS w1 wr v (toksSep tQQ (l.take i)))) (fun _ iv _ => m - (intOf iv).toNat)
  case atStart => exact ⟨0, Nat.zero_le _, rfl, by rw [List.take_zero, toksSep]; exact ⟨Below.refl _ _, rfl, .inl ⟨rfl, rfl⟩⟩⟩
  case round =>
    rename World => wo
    obtain ⟨i, hi, rfl, HT⟩ := hrel
    have z3 := HZ.out _ HT.out.below
    have z0 := HZ0.out _ HT.out.below
    by_cases hlt : i < m
    · have hz : (i : Int) < (m : Int) := by omega
      have hz0 : (0 : Int) ≤ (i : Int) := by omega
      have hil : i < l.length := by have := HM.out; omega
      obtain ⟨b, o, c0, c1, c2, c3, rfl, hq, hc⟩ := HA.out.call HW.out i hil
      have HQ := Lib.hid hq
      have HC := Lib.hid hc
      have hbd := sep_mono tQQ l (i + 1)
      have hln := HLEN.out
      rw [take_one hil] at hbd
      obtain ⟨x, hx⟩ : ∃ x, x = l[i] := ⟨_, rfl⟩
      have HX := Lib.hid hx
      rw [← hx] at HC hbd
      clear hq hc hx
      by_cases hi0 : i = 0
      · subst hi0
        have HE : Hid (toksSep tQQ (l.take 1) = [] ++ toks x) := by
          show _ = _
          rw [take_one hil, ← show x = l[0] from HX.out, List.take_zero, List.nil_append, sep_one]
          rfl
        have hbd2 : (toks x).length ≤ 3000 := by
          rw [List.take_zero, List.nil_append, sep_one] at hbd
          omega
        have HT0 : Hid (TS w1 wo u3 []) := by
          have := HT.out
          rw [List.take_zero, toksSep] at this
          exact this
        obtain ⟨x0, x1, x2, x3⟩ : wo.cell? ⟨b, o, none⟩ = some c0 ∧ wo.cell? ⟨b, o + 1, none⟩ = some c1 ∧ wo.cell? ⟨b, o + 2, none⟩ = some c2 ∧ wo.cell? ⟨b, o + 3, none⟩ = some c3 := by simpa using HQ.out _ HT.out.below
        clear hbd hln HX hil
        go_wp2_with fail
        refine (HC.out _ HT0.out.below).mono ?_
        rintro e w5 ⟨g5, k5, rfl, hr, hb2⟩
        have HR5 := Lib.hid hr
        have HT5 := Lib.hid (HT0.out.on hb2)
        clear hr hb2
        go_wp2_with (first | (at_builtin; refine wpList_append_texts rfl _ _ rfl _ [] rfl HT5.out (toks x) ⟨g5, 0, none⟩ k5 rfl (row_news HR5.out) (by simp; omega) ?_; intro v6 w6 hts hg3 hn3; have HT6 := Lib.hid hts; clear hts hg3 hn3))
        exact ⟨⟨1, by omega, by go_num, by rw [HE.out]; exact HT6.out⟩, by simp [intOf]; omega⟩
      · have hi1 : (0 : Int) < (i : Int) := by omega
        have hne : l.take i ≠ [] := fun e => by
          have : (l.take i).length = i := by simp; omega
          rw [e] at this
          simp at this
          omega
        have HE : Hid (toksSep tQQ (l.take (i + 1)) = toksSep tQQ (l.take i) ++ [tQQ] ++ toks x) := by
          show _ = _
          rw [take_one hil, ← show x = l[i] from HX.out, sep_snoc _ _ hne]
        have hbd2 : (toksSep tQQ (l.take i)).length + 1 + (toks x).length ≤ 3000 := by
          rw [sep_snoc _ _ hne] at hbd
          simp only [List.length_append, List.length_cons, List.length_nil] at hbd
          omega
        obtain ⟨ts, hts⟩ : ∃ ts, ts = toksSep tQQ (l.take i) := ⟨_, rfl⟩
        rw [← hts] at HT HE hbd2
        have tok1 : True := trivial
        clear hbd hln HX hil hne hts
        go_wp2_with (first
          | (at_builtin; have _t := tok1; refine wpList_append_texts rfl _ _ rfl _ ts rfl (HT.out.on (below_alloc wo _)) [tQQ] ⟨wo.heap.size, 0, none⟩ 1 rfl (World.news_of_block (heap_alloc_new wo _)) (by simp; omega) ?_; intro v4 w4 hts hg3 hn3; have HT4 := Lib.hid hts; obtain ⟨x0, x1, x2, x3⟩ := HQ.out _ hts.below; have y3 := HZ.out _ hts.below; clear hts hg3 hn3 tok1))
        refine (HC.out _ HT4.out.below).mono ?_
        rintro e w5 ⟨g5, k5, rfl, hr, hb2⟩
        have HR5 := Lib.hid hr
        have HT5 := Lib.hid (HT4.out.on hb2)
        clear hr hb2
        go_wp2_with (first | (at_builtin; refine wpList_append_texts rfl _ _ rfl _ (ts ++ [tQQ]) rfl HT5.out (toks x) ⟨g5, 0, none⟩ k5 rfl (row_news HR5.out) (by simp; omega) ?_; intro v6 w6 hts hg3 hn3; have HT6 := Lib.hid hts; clear hts hg3 hn3))
        exact ⟨⟨i + 1, by omega, by go_num, by rw [HE.out]; exact HT6.out⟩, by simp [intOf]; omega⟩
    · have hz : ¬ (i : Int) < (m : Int) := by omega
      have him : i = l.length := by have := HM.out; omega
      have HT9 : Hid (TS w1 wo u3 (toksSep tQQ l)) := by
        have := HT.out
        rw [him, List.take_length] at this
        exact this
      have hsl := HPOS.out
      obtain ⟨g9, k9, rfl⟩ := HT9.out.form hsl
      have hln := HLEN.out
      clear him
      obtain ⟨ts, hts⟩ : ∃ ts, ts = toksSep tQQ l := ⟨_, rfl⟩
      have HTS := Lib.hid hts
      rw [← hts] at HT9 hln ⊢
      have HNW := Lib.hid (TS.new HT9.out.below [tLP] (by unfold maxLen; simp))
      have HTW := Lib.hid (HT9.out.on (below_alloc wo (.cells ([tLP].map strV).toArray 9)))
      have tok1 : True := trivial
      clear hts hsl HT HLEN HPOS
      go_wp2_with (first
        | (at_builtin; have _t := tok1; refine wpList_append_texts rfl _ _ rfl _ [tLP] rfl HNW.out ts ⟨g9, 0, none⟩ k9 rfl (row_news HTW.out.row) (by simp; omega) ?_; intro v4 w4 hts hg3 hn3; have HT4 := Lib.hid hts; clear hts hg3 hn3 tok1)
        | (at_builtin; refine wpList_append_texts rfl _ _ rfl _ ([tLP] ++ ts) rfl (HT4.out.on (below_alloc w4 _)) [tRP] ⟨w4.heap.size, 0, none⟩ 1 rfl (World.news_of_block (heap_alloc_new w4 _)) (by simp; omega) ?_; intro v5 w5 hts hg3 hn3; have HT5 := Lib.hid hts; clear hts hg3 hn3))
      obtain ⟨g5, k5, rfl⟩ := HT5.out.form (by simp)
      go_ret
      exact tok_end HW.out (by rw [toks_nodes, ← show ts = toksSep tQQ l from HTS.out]; simp) rfl HT5.out
end Go.Proofs.YtkcpfgnfhbbhhaaDoor.po
