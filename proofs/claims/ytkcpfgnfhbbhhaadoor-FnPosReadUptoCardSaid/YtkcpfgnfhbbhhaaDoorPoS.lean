/-
  laws.posTokens at every expression of a sort. Conditions: in the statement.
-/
import Derived.Test.YtkcpfgnfhbbhhaaDoorPoJ
import Derived.Test.YtkcpfgnfhbbhhaaDoorPoG
import Derived.Test.YtkcpfgnfhbbhhaaDoorPoL
import Derived.Test.YtkcpfgnfhbbhhaaDoorPoM
import Derived.Test.YtkcpfgnfhbbhhaaDoorPoN
import Derived.Test.YtkcpfgnfhbbhhaaDoorPoP
import Derived.Test.YtkcpfgnfhbbhhaaDoorPoQ
import Derived.Test.YtkcpfgnfhbbhhaaDoorPoR
set_option linter.unusedVariables false
set_option linter.unusedSimpArgs false
namespace Go.Proofs.YtkcpfgnfhbbhhaaDoor.po
open Go.RowKit

/-- What posTokens answers at an expression, wherever it lies. -/
def TokAll (T : PT) : Prop := ∀ (w : World) (c0 c1 c2 c3 : Value), PosAt w T [c0, c1, c2, c3] → Calls Tryd.prog 8 #[.agg #[c0, c1, c2, c3]] w (TokOut T w)
theorem tokall_var (nm : Bs) : TokAll (.mk kVar nm 0 []) := by
  intro w c0 c1 c2 c3 h
  obtain ⟨K, N, p, cap, hK, rfl, h1, h2, h3, h4, hcs, hl⟩ := h.open
  obtain ⟨rfl, rfl, rfl, rfl⟩ : c0 = .string K ∧ c1 = .string N ∧ c2 = .int .i64 0 ∧ c3 = .slice p 0 cap := by simpa using hcs
  obtain rfl : K = ⟨#[118, 97, 114]⟩ := bytes_inj hK.symm
  exact tok_var N p cap
theorem tokall_int (n : Nat) (hn : n < 1099511627776) : TokAll (.mk kInt [] n []) := by
  intro w c0 c1 c2 c3 h
  obtain ⟨K, N, p, cap, hK, hN, h1, h2, h3, h4, hcs, hl⟩ := h.open
  obtain ⟨rfl, rfl, rfl, rfl⟩ : c0 = .string K ∧ c1 = .string N ∧ c2 = .int .i64 (n : Int) ∧ c3 = .slice p 0 cap := by simpa using hcs
  obtain rfl : K = ⟨#[105, 110, 116]⟩ := bytes_inj hK.symm
  obtain rfl : N = ⟨#[]⟩ := bytes_inj hN.symm
  exact tok_int n p cap hn
/-- An expression with arguments, opened. -/
theorem ask_open {w : World} {k : Bs} {l : List PT} {c0 c1 c2 c3 : Value} (K0 : ByteArray) (hk : k = K0.data.toList) (h : PosAt w (.mk k [] 0 l) [c0, c1, c2, c3]) (ih : ∀ x ∈ l, TokAll x) : ∃ p cap, c0 = .string K0 ∧ c1 = .string ⟨#[]⟩ ∧ c2 = .int .i64 0 ∧ c3 = .slice p l.length cap ∧ TAsk w l p := by
  obtain ⟨K, N, p, cap, hK, hN, h1, h2, h3, h4, hcs, hl⟩ := h.open
  obtain ⟨rfl, rfl, rfl, rfl⟩ : c0 = .string K ∧ c1 = .string N ∧ c2 = .int .i64 0 ∧ c3 = .slice p l.length cap := by simpa using hcs
  obtain rfl : K = K0 := bytes_inj (hK.symm.trans hk)
  obtain rfl : N = ⟨#[]⟩ := bytes_inj hN.symm
  exact ⟨p, cap, rfl, rfl, rfl, rfl, hl, fun x hx W d0 d1 d2 d3 hp => ih x hx W d0 d1 d2 d3 hp⟩
theorem short_toks {k : Bs} {T : PT} (h : S k T) (hs : T.size ≤ 500) : (toks T).length ≤ 3000 := by have := toks_len' h; omega
theorem pos_toks {k : Bs} {T : PT} (h : S k T) : 0 < (toks T).length := List.length_pos_iff.2 (toks_fine h).ne
theorem mem_size {l : List PT} {x : PT} (h : x ∈ l) : x.size ≤ PT.sizes l := by
  induction l with
  | nil => cases h
  | cons y r ih =>
    rw [PT.sizes_cons]
    rcases List.mem_cons.1 h with rfl | h
    · omega
    · have := ih h
      omega
theorem tok_any {k : Bs} {T : PT} (h : S k T) : T.size ≤ 500 → TokAll T := by
  induction h with
  | var nm w h1 h2 => exact fun _ => tokall_var nm
  | int n hn => exact fun _ => tokall_int n hn
  | pos k a hk ha ih =>
    intro hs w c0 c1 c2 c3 h
    have hsa : a.size ≤ 500 := by rw [PT.size_eq, PT.sizes_cons] at hs; omega
    have hih : ∀ x ∈ [a], TokAll x := fun x hx => by rw [List.mem_singleton.1 hx]; exact ih hsa
    rcases hk with rfl | rfl
    · obtain ⟨p, cap, rfl, rfl, rfl, rfl, hA⟩ := ask_open ⟨#[112, 111, 115]⟩ rfl h hih
      exact tok_pos hA (short_toks ha hsa)
    · obtain ⟨p, cap, rfl, rfl, rfl, rfl, hA⟩ := ask_open ⟨#[101, 110, 100]⟩ rfl h hih
      exact tok_fin hA (short_toks ha hsa)
  | last nm h1 =>
    intro hs w c0 c1 c2 c3 h
    obtain ⟨p, cap, rfl, rfl, rfl, rfl, hA⟩ := ask_open ⟨#[108, 97, 115, 116]⟩ rfl h (fun x hx => by rw [List.mem_singleton.1 hx]; exact tokall_var nm)
    exact tok_last hA (by rw [toks_var]; simp)
  | len nm h1 =>
    intro hs w c0 c1 c2 c3 h
    obtain ⟨p, cap, rfl, rfl, rfl, rfl, hA⟩ := ask_open ⟨#[108, 101, 110]⟩ rfl h (fun x hx => by rw [List.mem_singleton.1 hx]; exact tokall_var nm)
    exact tok_len hA (by rw [toks_var]; simp)
  | add a b ha hn hb ih1 ih2 =>
    intro hs w c0 c1 c2 c3 h
    rw [PT.size_eq, PT.sizes_cons, PT.sizes_cons] at hs
    obtain ⟨p, cap, rfl, rfl, rfl, rfl, hA⟩ := ask_open ⟨#[97, 100, 100]⟩ rfl h (fun x hx => by
      rcases List.mem_cons.1 hx with rfl | hx
      · exact ih1 (by omega)
      · rw [List.mem_singleton.1 hx]; exact ih2 (by omega))
    exact tok_add hA (short_toks ha (by omega)) (short_toks hb (by omega)) (pos_toks hb)
  | index nm b h1 hb ih =>
    intro hs w c0 c1 c2 c3 h
    rw [PT.size_eq, PT.sizes_cons, PT.sizes_cons] at hs
    obtain ⟨p, cap, rfl, rfl, rfl, rfl, hA⟩ := ask_open ⟨#[105, 110, 100, 101, 120]⟩ rfl h (fun x hx => by
      rcases List.mem_cons.1 hx with rfl | hx
      · exact tokall_var nm
      · rw [List.mem_singleton.1 hx]; exact ih (by omega))
    exact tok_index hA (by rw [toks_var]; simp) (short_toks hb (by omega)) (pos_toks hb)
  | ite nm a b h1 ha hb ih1 ih2 =>
    intro hs w c0 c1 c2 c3 h
    rw [PT.size_eq, PT.sizes_cons, PT.sizes_cons, PT.sizes_cons] at hs
    obtain ⟨p, cap, rfl, rfl, rfl, rfl, hA⟩ := ask_open ⟨#[105, 102]⟩ rfl h (fun x hx => by
      rcases List.mem_cons.1 hx with rfl | hx
      · exact tokall_var nm
      rcases List.mem_cons.1 hx with rfl | hx
      · exact ih1 (by omega)
      · rw [List.mem_singleton.1 hx]; exact ih2 (by omega))
    exact tok_ite hA (by rw [toks_var]; simp) (by have := short_toks ha (by omega); omega) (by have := short_toks hb (by omega); omega)
  | choice l h0 h1 h2 ih =>
    intro hs w c0 c1 c2 c3 h
    have hS := S.choice l h0 h1 h2
    have hl := short_toks hS hs
    have hp := pos_toks hS
    rw [toks_choice] at hl hp
    rw [PT.size_eq] at hs
    obtain ⟨p, cap, rfl, rfl, rfl, rfl, hA⟩ := ask_open ⟨#[99, 104, 111, 105, 99, 101]⟩ rfl h (fun x hx => ih x hx (by have := mem_size hx; omega))
    exact tok_choice hA (by omega) (by have := len_sizes l; omega) hl hp
  | nodes l h0 h1 h2 ih =>
    intro hs w c0 c1 c2 c3 h
    have hs' := hs
    rw [PT.size_eq] at hs
    have hl := sep_len tQQ l (by omega) (fun x hx => toks_len' (h1 x hx))
    have hp : 0 < (toksSep tQQ l).length := by
      cases l with
      | nil => simp at h0
      | cons x r =>
        rw [toksSep]
        have := pos_toks (h1 x (by simp))
        simp
        omega
    obtain ⟨p, cap, rfl, rfl, rfl, rfl, hA⟩ := ask_open ⟨#[110, 111, 100, 101, 115]⟩ rfl h (fun x hx => ih x hx (by have := mem_size hx; omega))
    exact tok_nodes hA (by omega) (by have := len_sizes l; omega) (by omega) hp
end Go.Proofs.YtkcpfgnfhbbhhaaDoor.po
