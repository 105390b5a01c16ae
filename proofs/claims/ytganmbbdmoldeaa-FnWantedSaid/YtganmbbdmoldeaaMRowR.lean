/-
  A slice of slices of bytes that came in, as the rows' frame hands it over, read as a list of lists.
  Conditions: none.
-/
import Derived.Test.YtganmbbdmoldeaaMRows
import Derived.Test.YtganmbbdmoldeaaMRow
import Derived.Deep.Matrix
namespace Go.Proofs.Ytganmbbdmoldeaa.Mz
open Go.RowKit Go.Deep

/-- What the walk is told of a slice of slices of bytes that came in. -/
def IsRows (w : World) (a : Option Addr) (len : Nat) (_ : Nat) : Prop :=
  ∃ rows : List (List Int), rows.length = len ∧ RdR w a rows ∧ (∀ j, Byt (rows.getD j [])) ∧ len ≤ 9223372036854775807

theorem isRows_nil (w : World) : IsRows w none 0 0 := ⟨[], rfl, fun h => by simp at h, fun j x hx => by simp at hx, by omega⟩

theorem isRows_of {w : World} (a : Addr) (len cap : Nat) (A : Nat → Option Addr) (L C : Nat → Nat) (Z : Nat → List Int) (hl : len ≤ cap) (hm : cap ≤ maxLen)
    (h : ∀ r, r < cap → w.cell? (a.add r) = some (.slice (A r) (L r) (C r)) ∧ L r ≤ C r ∧ C r ≤ maxLen ∧ (Z r).length = C r ∧ (∀ n ∈ Z r, (Lit.int .u8 n).wf = true) ∧ (A r = none → C r = 0) ∧
      ∀ a', A r = some a' → 0 ≤ a'.block ∧ ∀ c, c < C r → w.cell? (a'.add c) = some (.int .u8 ((Z r).getD c 0))) : IsRows w (some a) len cap := by
  have hget : ∀ j, j < len → ((List.range len).map fun r => (Z r).take (L r)).getD j [] = (Z j).take (L j) := by
    intro j hj
    rw [List.getD_eq_getElem?_getD, List.getElem?_map, List.getElem?_range hj]
    rfl
  refine ⟨(List.range len).map fun r => (Z r).take (L r), by simp, fun _ => ⟨a, rfl, fun j hj => ?_⟩, fun j x hx => ?_, by unfold maxLen at hm; omega⟩
  · have hj : j < len := by simpa using hj
    obtain ⟨h1, h2, _, h4, _, h6, h7⟩ := h j (by omega)
    rw [hget j hj]
    have hlen : ((Z j).take (L j)).length = L j := by rw [List.length_take]; omega
    refine ⟨A j, C j, by rw [hlen]; exact h1, by omega, fun hp => ?_⟩
    cases hA : A j with
    | none => have := h6 hA; omega
    | some a' =>
      obtain ⟨_, hc⟩ := h7 a' hA
      refine ⟨a', rfl, fun i u hi => ?_⟩
      have hil : i < L j := by have := (List.getElem?_eq_some_iff.1 hi).1; rw [bys_length, hlen] at this; exact this
      rw [hc i (by omega), ← hi, bys, List.getElem?_map, List.getElem?_take_of_lt hil, List.getD_eq_getElem?_getD, List.getElem?_eq_getElem (by omega)]
      rfl
  · by_cases hj : j < len
    · rw [hget j hj] at hx
      obtain ⟨_, _, _, _, h5, _⟩ := h j (by omega)
      exact byte_of_wf (h5 x (List.mem_of_mem_take hx))
    · rw [List.getD_eq_getElem?_getD, List.getElem?_eq_none (by simp; omega)] at hx
      simp at hx

end Go.Proofs.Ytganmbbdmoldeaa.Mz
