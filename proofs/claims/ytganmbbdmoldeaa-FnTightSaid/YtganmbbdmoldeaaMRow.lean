/-
  A slice of bytes that came in, as the rows' frame hands it over, read as a list.
  Conditions: none.
-/
import Derived.Test.YtganmbbdmoldeaaMLem
import Derived.ProofKit
import Derived.OpenShut
namespace Go.Proofs.Ytganmbbdmoldeaa.Mz
open Go.RowKit

/-- What the walk is told of a slice of integers that came in: it is nil; or it leads to a row of 'cap' cells, the numbers 'zs' (the first 'len' are its elements, the rest its spare room), each fitting its kind. -/
def IsRow (k : IntKind) (w : World) (a : Option Addr) (len cap : Nat) (zs : List Int) : Prop :=
  (a = none ∧ len = 0 ∧ cap = 0 ∧ zs = []) ∨
  ∃ x, a = some x ∧ len ≤ cap ∧ cap ≤ maxLen ∧ zs.length = cap ∧ (∀ i, i < zs.length → w.cell? (x.add i) = some (.int k (zs.getD i 0))) ∧ ∀ n ∈ zs, (Lit.int k n).wf = true

theorem byte_of_wf {n : Int} (h : (Lit.int .u8 n).wf = true) : 0 ≤ n ∧ n ≤ 255 := by
  simp only [Lit.wf, Bool.and_eq_true, decide_eq_true_eq] at h
  exact h
theorem int_of_wf {n : Int} (h : (Lit.int .i64 n).wf = true) : -9223372036854775808 ≤ n ∧ n ≤ 9223372036854775807 := by
  simp only [Lit.wf, Bool.and_eq_true, decide_eq_true_eq] at h
  exact h

theorem IsRow.reads {w : World} {a : Option Addr} {len cap : Nat} {zs : List Int} (h : IsRow .u8 w a len cap zs) :
    RdS w a (zs.take len) ∧ (zs.take len).length = len ∧ len ≤ cap ∧ Byt (zs.take len) ∧ len ≤ 9223372036854775807 := by
  rcases h with ⟨rfl, rfl, rfl, rfl⟩ | ⟨x, rfl, hl, hm, hz, hc, hw⟩
  · exact ⟨fun h => by simp at h, rfl, Nat.le_refl _, fun y hy => by simp at hy, by omega⟩
  · have hlen : (zs.take len).length = len := by rw [List.length_take]; omega
    refine ⟨fun _ => ⟨x, rfl, fun j u hj => ?_⟩, hlen, hl, fun y hy => byte_of_wf (hw y (List.mem_of_mem_take hy)), by unfold maxLen at hm; omega⟩
    have hjl : j < len := by have := (List.getElem?_eq_some_iff.1 hj).1; rw [bys_length, hlen] at this; exact this
    rw [hc j (by omega), ← hj, bys, List.getElem?_map, List.getElem?_take_of_lt hjl, List.getD_eq_getElem?_getD, List.getElem?_eq_getElem (by omega)]
    rfl

end Go.Proofs.Ytganmbbdmoldeaa.Mz
