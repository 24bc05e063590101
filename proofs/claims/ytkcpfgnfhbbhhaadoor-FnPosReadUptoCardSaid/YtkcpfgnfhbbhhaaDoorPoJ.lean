/-
  laws.posTokens at names, numbers, last elements, lengths, choices of numbers. Conditions: in the statements.
-/
import Derived.Test.YtkcpfgnfhbbhhaaDoorPoI
set_option linter.unusedVariables false
set_option linter.unusedSimpArgs false
namespace Go.Proofs.YtkcpfgnfhbbhhaaDoor.po
open Go.RowKit

set_option maxHeartbeats 4000000 in
set_option maxRecDepth 100000 in
theorem tok_var {w : World} (N : ByteArray) (p : Option Addr) (cap : Nat) : Calls Tryd.prog 8 #[.agg #[.string ⟨#[118, 97, 114]⟩, .string N, .int .i64 0, .slice p 0 cap]] w (TokOut (.mk kVar N.data.toList 0 []) w) := by
  go_enter Tryd.func8, Tryd.ntmps8
  go_wp2_with fail
  go_ret
  refine tok_end (below_alloc w (.cells #[.string ⟨#[118, 97, 114]⟩, .string N, .int .i64 0, .slice p 0 cap] 24)) (toks_var _) rfl ?_
  have h := TS.new (Below.refl (w.alloc (.cells #[.string ⟨#[118, 97, 114]⟩, .string N, .int .i64 0, .slice p 0 cap] 24)).heap.size _) [N.data.toList] (by unfold maxLen; simp)
  simpa [strV_data] using h
set_option maxHeartbeats 4000000 in
set_option maxRecDepth 100000 in
theorem tok_int {w : World} (n : Nat) (p : Option Addr) (cap : Nat) (hn : n < 1099511627776) : Calls Tryd.prog 8 #[.agg #[.string ⟨#[105, 110, 116]⟩, .string ⟨#[]⟩, .int .i64 (n : Int), .slice p 0 cap]] w (TokOut (.mk kInt [] n []) w) := by
  have HD : Hid (∀ w, Calls Tryd.prog 13 #[.int .i64 (n : Int)] w fun e w' => e = .returned (.string ⟨(digitsB n).toArray⟩) ∧ Below w.heap.size w w') := digits_any n hn
  go_enter Tryd.func8, Tryd.ntmps8
  go_wp2_with fail
  refine (HD.out _).mono ?_
  rintro e w2 ⟨rfl, hb2⟩
  have HB2 := Lib.hid hb2
  clear hb2
  go_wp2_with fail
  go_ret
  refine tok_end (below_alloc w (.cells #[.string ⟨#[105, 110, 116]⟩, .string ⟨#[]⟩, .int .i64 (n : Int), .slice p 0 cap] 24)) (toks_int n) rfl ?_
  have h := TS.new HB2.out [digitsB n] (by unfold maxLen; simp)
  simpa [strV] using h
set_option maxHeartbeats 4000000 in
set_option maxRecDepth 100000 in
theorem tok_last {w : World} {a : PT} {p : Option Addr} {cap : Nat} (h : TAsk w [a] p) (hl : (toks a).length ≤ 9000000) : Calls Tryd.prog 8 #[.agg #[.string ⟨#[108, 97, 115, 116]⟩, .string ⟨#[]⟩, .int .i64 0, .slice p 1 cap]] w (TokOut (.mk kLast [] 0 [a]) w) := by
  have hw : Below w.heap.size w (w.alloc (.cells #[.string ⟨#[108, 97, 115, 116]⟩, .string ⟨#[]⟩, .int .i64 0, .slice p 1 cap] 24)) := below_alloc w _
  obtain ⟨b0, o0, c0, c1, c2, c3, hp0, hq0, hc0⟩ := h.call hw 0 (by simp)
  subst hp0
  have HQ0 : Hid (∀ W, Below (w.alloc (.cells #[.string ⟨#[108, 97, 115, 116]⟩, .string ⟨#[]⟩, .int .i64 0, .slice (some ⟨b0, o0, none⟩) 1 cap] 24)).heap.size (w.alloc (.cells #[.string ⟨#[108, 97, 115, 116]⟩, .string ⟨#[]⟩, .int .i64 0, .slice (some ⟨b0, o0, none⟩) 1 cap] 24)) W → W.cell? ⟨b0, o0, none⟩ = some c0 ∧ W.cell? ⟨b0, o0 + 1, none⟩ = some c1 ∧ W.cell? ⟨b0, o0 + 2, none⟩ = some c2 ∧ W.cell? ⟨b0, o0 + 3, none⟩ = some c3) := fun W hW => by simpa using hq0 W hW
  have HC0 : Hid (∀ W, Below (w.alloc (.cells #[.string ⟨#[108, 97, 115, 116]⟩, .string ⟨#[]⟩, .int .i64 0, .slice (some ⟨b0, o0, none⟩) 1 cap] 24)).heap.size (w.alloc (.cells #[.string ⟨#[108, 97, 115, 116]⟩, .string ⟨#[]⟩, .int .i64 0, .slice (some ⟨b0, o0, none⟩) 1 cap] 24)) W → Calls Tryd.prog 8 #[.agg #[c0, c1, c2, c3]] W (TokOut a W)) := fun W hW => by simpa using hc0 W hW
  obtain ⟨w1, hw1⟩ : ∃ w1, w1 = w.alloc (.cells #[.string ⟨#[108, 97, 115, 116]⟩, .string ⟨#[]⟩, .int .i64 0, .slice (some ⟨b0, o0, none⟩) 1 cap] 24) := ⟨_, rfl⟩
  rw [← hw1] at hw HQ0 HC0
  have HW1 := Lib.hid hw1
  have HW := Lib.hid hw
  have hbx : obj w1 w.heap.size #[.string ⟨#[108, 97, 115, 116]⟩, .string ⟨#[]⟩, .int .i64 0, .slice (some ⟨b0, o0, none⟩) 1 cap] 24 := by rw [hw1]; exact heap_alloc_new w _
  have HBX := Lib.hid hbx
  clear hw1 hw hbx h hq0 hc0
  obtain ⟨x00, x01, x02, x03⟩ := HQ0.out _ (Below.refl _ _)
  rw [HW1.out] at x00 x01 x02 x03
  go_enter Tryd.func8, Tryd.ntmps8
  go_wp2_with fail
  rw [← HW1.out]
  refine (HC0.out _ (Below.refl _ _)).mono ?_
  rintro e w2 ⟨g, c, rfl, hr, hb2⟩
  have HT2 := Lib.hid (TS.call (Below.refl w1.heap.size w1) hr hb2)
  clear hr hb2
  go_wp2_with (at_builtin; refine wpList_append_texts rfl _ _ rfl _ (toks a) rfl (HT2.out.on (below_alloc w2 _)) [tLB, tDol, tRB] ⟨w2.heap.size, 0, none⟩ 3 rfl (World.news_of_block (heap_alloc_new w2 _)) (by simp; omega) ?_; intro v' w3 hts hg3 hn3; have HT3 := Lib.hid hts; clear hts hg3 hn3)
  obtain ⟨g3, c3', rfl⟩ := HT3.out.form (by simp)
  go_ret
  exact tok_end HW.out (toks_last a) rfl HT3.out
end Go.Proofs.YtkcpfgnfhbbhhaaDoor.po
