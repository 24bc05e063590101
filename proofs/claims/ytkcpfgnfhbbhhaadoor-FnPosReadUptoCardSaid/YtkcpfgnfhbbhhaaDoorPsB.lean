/-
  The parser of positions: skip, consume, expect. Conditions: in the statements.
-/
import Derived.Test.YtkcpfgnfhbbhhaaDoorPsA
import Derived.Laws.Cover4
set_option linter.unusedVariables false
set_option linter.unusedSimpArgs false
namespace Go.Proofs.YtkcpfgnfhbbhhaaDoor.po
open Go.RowKit

def spB (c : UInt8) : Bool := Lib.isSpaceL (c.toNat : Int)
/-- The parser's offset. -/
def offIn (w : World) (pb : Nat) : Nat := match w.cell? ⟨pb, 1, none⟩ with | some (.int _ n) => n.toNat | _ => 0
section
variable {pb sb cap : Nat} {txt t t' : Bs} {w w' : World}
theorem PS.off (h : PS pb sb cap txt t w) : offIn w pb = txt.length - t.length := by
  unfold offIn
  rw [cells_of_heap h.obj 1]
  simp
theorem eof_nil (h : PS pb sb cap txt [] w) : Calls Tryd.prog 21 #[.pointer (some ⟨pb, 0, none⟩)] w (Ps pb sb cap txt (.bool true) [] w) := eof_any h
theorem eof_cons {c : UInt8} {r : Bs} (h : PS pb sb cap txt (c :: r) w) : Calls Tryd.prog 21 #[.pointer (some ⟨pb, 0, none⟩)] w (Ps pb sb cap txt (.bool false) (c :: r) w) := eof_any h
theorem PS.head {c : UInt8} {r : Bs} (h : PS pb sb cap txt (c :: r) w) : c.toNat < 128 := h.asc c (h.suf.subset (by simp))
theorem space_any {c : UInt8} (hc : c.toNat < 128) (w : World) : Calls Tryd.prog 24 #[.int .i32 (c.toNat : Int)] w fun e w' => e = .returned (.bool (spB c)) ∧ w' = w :=
  Tryd.unicode_IsSpace (c.toNat : Int) w (by omega) (by omega)
set_option maxHeartbeats 1000000 in
set_option maxRecDepth 100000 in
theorem skip_any (h : PS pb sb cap txt t w) : Calls Tryd.prog 19 #[.pointer (some ⟨pb, 0, none⟩)] w (Ps pb sb cap txt (.tuple #[]) (t.dropWhile spB) w) := by
  have HP := Lib.hid h
  clear h
  go_enter Tryd.func19, Tryd.ntmps19
  go_wp2_with fail
  go_loopw [2] (fun _ wr => ∃ t1, Hid (PS pb sb cap txt t1 wr) ∧ Hid (w.grownBy wr (some pb)) ∧ Hid (t1.dropWhile spB = t.dropWhile spB)) (fun _ wr => txt.length - offIn wr pb)
  case atStart => exact ⟨t, HP.out, grown_refl _ _, rfl⟩
  case round =>
    obtain ⟨t1, H1, HG, HE⟩ := hrel
    cases t1 with
    | nil =>
      go_wp2_with (first | (go_at_call 21; refine (eof_nil H1.out).mono ?_; rintro e w2 ⟨rfl, hp, hg⟩; have H2 := Lib.hid hp; have HG2 := Lib.hid (grown_trans HG.out hg); clear hp hg))
      go_end0
      have e : ([] : Bs) = t.dropWhile spB := HE.out
      exact ⟨rfl, by rw [← e]; exact H2.out, HG2.out⟩
    | cons c r =>
      cases hs : spB c with
      | false =>
        have HS := Lib.hid hs
        clear hs
        go_wp2_with (first | (go_at_call 21; refine (eof_cons H1.out).mono ?_; rintro e w2 ⟨rfl, hp, hg⟩; have H2 := Lib.hid hp; have HG2 := Lib.hid (grown_trans HG.out hg); clear hp hg) | (go_at_call 25; refine (current_any H2.out).mono ?_; rintro e w3 ⟨rfl, hp, hg⟩; have H3 := Lib.hid hp; have HG3 := Lib.hid (grown_trans HG2.out hg); clear hp hg) | (go_at_call 24; refine (space_any H3.out.head _).mono ?_; rintro e w4 ⟨rfl, rfl⟩; rw [HS.out]))
        go_end0
        have e : c :: r = t.dropWhile spB := by
          have := HE.out
          rw [List.dropWhile_cons, HS.out] at this
          simpa using this
        exact ⟨rfl, by rw [← e]; exact H3.out, HG3.out⟩
      | true =>
        have HS := Lib.hid hs
        clear hs
        go_wp2_with (first | (go_at_call 21; refine (eof_cons H1.out).mono ?_; rintro e w2 ⟨rfl, hp, hg⟩; have H2 := Lib.hid hp; have HG2 := Lib.hid (grown_trans HG.out hg); clear hp hg) | (go_at_call 25; refine (current_any H2.out).mono ?_; rintro e w3 ⟨rfl, hp, hg⟩; have H3 := Lib.hid hp; have HG3 := Lib.hid (grown_trans HG2.out hg); clear hp hg) | (go_at_call 24; refine (space_any H3.out.head _).mono ?_; rintro e w4 ⟨rfl, rfl⟩; rw [HS.out]) | (go_at_call 26; refine (next_any H3.out).mono ?_; rintro e w5 ⟨rfl, hp, hg⟩; have H5 := Lib.hid hp; have HG5 := Lib.hid (grown_trans HG3.out hg); clear hp hg))
        refine ⟨⟨r, H5.out, HG5.out, ?_⟩, ?_⟩
        · have := HE.out
          rw [List.dropWhile_cons, HS.out] at this
          exact this
        · rw [H5.out.off, H1.out.off]
          have := H1.out.le
          simp at this ⊢
          omega
/-! Runes back to text. -/
theorem encode_ascii : ∀ n : Nat, n < 128 → Utf8.encode (n : Int) = ⟨#[UInt8.ofNat n]⟩ := by decide +kernel
theorem runes_ascii : ∀ (l : Bs) (s : ByteArray), (∀ c ∈ l, c.toNat < 128) → (l.map fun c => (c.toNat : Int)).foldl (fun r n => r ++ Utf8.encode n) s = s ++ ⟨l.toArray⟩
  | [], s, _ => by
    simp only [List.map_nil, List.foldl_nil]
    apply ByteArray.ext
    simp
  | c :: r, s, h => by
    simp only [List.map_cons, List.foldl_cons]
    rw [encode_ascii c.toNat (h c (by simp)), UInt8.ofNat_toNat, runes_ascii r _ (fun x hx => h x (by simp [hx]))]
    apply ByteArray.ext
    simp
theorem runesBytes_ascii (l : Bs) (h : ∀ c ∈ l, c.toNat < 128) : runesBytes (l.map fun c => (c.toNat : Int)) = ⟨l.toArray⟩ := by
  unfold runesBytes
  rw [runes_ascii l _ h]
  apply ByteArray.ext
  simp
theorem conv_at (h : PS pb sb cap txt t w) {u : Bs} (hu : u <:+ txt) (k c : Nat) (hk : k ≤ u.length) : (convert 49 9 (.slice (some ⟨sb, txt.length - u.length, none⟩) k c)).run Tryd.prog w = .ok (.string ⟨(u.take k).toArray⟩) w := by
  have hl : (u.take k).length = k := by simp; omega
  have ha : ∀ c ∈ u.take k, c.toNat < 128 := fun c hc => h.asc c (hu.subset (List.mem_of_mem_take hc))
  have := run_convert_runes (P := Tryd.prog) w 49 9 21 ⟨sb, txt.length - u.length, none⟩ k c ((u.take k).map fun c => (c.toNat : Int)) (by simp; omega) Tryd.underlying49 Tryd.underlying21 Tryd.underlying9 (fun j hj => by
    have hj' : j < (u.take k).length := by simpa using hj
    rw [add_none]
    obtain ⟨p, rfl⟩ := hu
    have e : (p ++ u).length - u.length + j = p.length + j := by simp
    have hlt : p.length + j < (p ++ u).length := by simp at hj' ⊢; omega
    rw [e, h.src _ hlt]
    have e2 : (p ++ u)[p.length + j] = (u.take k)[j] := by
      rw [List.getElem_append_right (by omega)]
      simp
    rw [e2, List.getD_eq_getElem?_getD, List.getElem?_map, List.getElem?_eq_getElem hj']
    rfl)
  rw [this, List.take_of_length_le (by simp; omega), runesBytes_ascii _ ha]
end
end Go.Proofs.YtkcpfgnfhbbhhaaDoor.po
