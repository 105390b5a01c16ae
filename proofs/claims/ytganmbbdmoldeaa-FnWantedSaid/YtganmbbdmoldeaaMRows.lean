/-
  Rows of bytes: what zzFits1, spec.Rows, spec.Within, spec.Wanted, spec.One and impl.wanted tell of them.
  Conditions: that the slices can be read; the sizes that each theorem states.
-/
import Derived.Test.YtganmbbdmoldeaaMHas
namespace Go.Proofs.Ytganmbbdmoldeaa.Mz
open Go.RowKit
set_option linter.unusedSimpArgs false
set_option linter.unusedVariables false

/-- A slice of slices of bytes that reads as these rows. -/
def RdR (w : World) (A : Option Addr) (rows : List (List Int)) : Prop :=
  0 < rows.length → ∃ ad, A = some ad ∧ ∀ j, j < rows.length → ∃ B cc, w.cell? (ad.add j) = some (.slice B (rows.getD j []).length cc) ∧ (rows.getD j []).length ≤ cc ∧ RdS w B (rows.getD j [])

theorem RdR.below {w w' : World} {A : Option Addr} {rows : List (List Int)} (h : RdR w A rows) (hb : Below w.heap.size w w') : RdR w' A rows := by
  intro hp
  obtain ⟨ad, rfl, hc⟩ := h hp
  refine ⟨ad, rfl, fun j hj => ?_⟩
  obtain ⟨B, cc, h1, h2, h3⟩ := hc j hj
  exact ⟨B, cc, (hb.cell (World.block_lt_of_cell? w _ h1)).trans h1, h2, h3.below hb⟩

/-! ### Plain -/
noncomputable def fitsB (rows : List (List Int)) : Bool := @decide (rows.length ≤ 2147483647 ∧ ∀ j, j < rows.length → (rows.getD j []).length ≤ 2147483647) (Classical.propDecidable _)
def RowsOk (rows : List (List Int)) : Prop := ∀ j, j < rows.length → (rows.getD j []).length ≠ 0 ∧ (rows.getD j []).length ≤ 2000 ∧ ∀ i, i < (rows.getD j []).length → 128 ≤ (rows.getD j []).getD i 0
noncomputable def rowsB (rows : List (List Int)) : Bool := @decide (RowsOk rows ∧ rows.length ≤ 50) (Classical.propDecidable _)
theorem cdecide_true {p : Prop} (h : p) : @decide p (Classical.propDecidable _) = true := @decide_eq_true _ (Classical.propDecidable _) h
theorem cdecide_false {p : Prop} (h : ¬ p) : @decide p (Classical.propDecidable _) = false := @decide_eq_false _ (Classical.propDecidable _) h
theorem of_cdecide {p : Prop} (h : @decide p (Classical.propDecidable _) = true) : p := @of_decide_eq_true _ (Classical.propDecidable _) h

set_option maxHeartbeats 400000 in
theorem fits11 (w : World) (rows : List (List Int)) (A : Option Addr) (c : Nat) (hr : RdR w A rows) (hm : rows.length ≤ 9223372036854775807) :
    Calls Try.prog 11 #[.slice A rows.length c] w fun e w' => e = .returned (.bool (fitsB rows)) ∧ w = w' := by
  by_cases t1 : (2147483647 : Int) < (rows.length : Int)
  · have e1 : decide ((2147483647 : Int) < (rows.length : Int)) = true := decide_eq_true t1
    have hfin : fitsB rows = false := cdecide_false fun h => by have := h.1; omega
    have HF := Lib.hid hfin
    clear hfin hr
    go_enter Try.func11, Try.ntmps11
    go_wp2
    go_ret
    exact ⟨ret_bool (a := false) HF.out.symm, rfl⟩
  have e1 : decide ((2147483647 : Int) < (rows.length : Int)) = false := decide_eq_false t1
  have HR := Lib.hid hr
  clear hr
  go_enter Try.func11, Try.ntmps11
  go_wp2
  go_loop [10] (fun v => ∃ k : Nat, v = .int .i64 k ∧ k ≤ rows.length ∧ Hid (∀ j, j < k → (rows.getD j []).length ≤ 2147483647)) (fun v => rows.length - (intOf v).toNat)
  case atStart => exact ⟨0, rfl, Nat.zero_le _, fun j hj => by omega⟩
  case round =>
    obtain ⟨k, rfl, hk, hno⟩ := hrel
    by_cases hlt : k < rows.length
    · obtain ⟨ad, rfl, hc⟩ := HR.out (by omega)
      obtain ⟨row, hrow⟩ : ∃ row, row = rows.getD k [] := ⟨_, rfl⟩
      obtain ⟨B, cc, h1, h2, _⟩ := hc k hlt
      rw [← hrow] at h1 h2
      have HROW := Lib.hid hrow
      clear hc hrow
      by_cases t2 : (2147483647 : Int) < (row.length : Int)
      · have e2 : decide ((2147483647 : Int) < (row.length : Int)) = true := decide_eq_true t2
        have hfin : fitsB rows = false := cdecide_false fun h => by have := h.2 k hlt; rw [← HROW.out] at this; omega
        have HF := Lib.hid hfin
        clear hfin
        go_wp2
        go_ret
        exact ⟨ret_bool (a := false) HF.out.symm, rfl⟩
      · have e2 : decide ((2147483647 : Int) < (row.length : Int)) = false := decide_eq_false t2
        go_wp2
        go_round
        case rel =>
          refine ⟨k + 1, by go_num, by omega, fun j hj => ?_⟩
          by_cases hjk : j = k
          · rw [hjk, ← HROW.out]; omega
          · exact hno.out j (by omega)
        case measure => simp [intOf]; omega
    · have hfin : fitsB rows = true := cdecide_true ⟨by omega, fun j hj => hno.out j (by omega)⟩
      have HF := Lib.hid hfin
      clear hfin
      go_wp2
      go_ret
      exact ⟨ret_bool (a := true) HF.out.symm, rfl⟩

theorem RdS.cell {w : World} {A : Option Addr} {xs : List Int} (h : RdS w A xs) {i : Nat} (hi : i < xs.length) : ∃ ad, A = some ad ∧ w.cell? (ad.add i) = some (.int .u8 (xs.getD i 0)) := by
  obtain ⟨ad, rfl, hc⟩ := h (by omega)
  refine ⟨ad, rfl, hc i _ ?_⟩
  rw [bys, List.getElem?_map, List.getElem?_eq_getElem hi, List.getD_eq_getElem?_getD, List.getElem?_eq_getElem hi]
  rfl

set_option maxHeartbeats 1000000 in
theorem rows12 (w : World) (rows : List (List Int)) (A : Option Addr) (c : Nat) (hr : RdR w A rows) (hm : rows.length ≤ 9223372036854775807) :
    Calls Try.prog 12 #[.slice A rows.length c] w fun e w' => e = .returned (.bool (rowsB rows)) ∧ w = w' := by
  have HR := Lib.hid hr
  clear hr
  go_enter Try.func12, Try.ntmps12
  go_wp2
  go_loop [9] (fun v => ∃ k : Nat, v = .int .i64 k ∧ k ≤ rows.length ∧ Hid (∀ j, j < k → (rows.getD j []).length ≠ 0 ∧ (rows.getD j []).length ≤ 2000 ∧ ∀ i, i < (rows.getD j []).length → 128 ≤ (rows.getD j []).getD i 0)) (fun v => rows.length - (intOf v).toNat)
  case atStart => exact ⟨0, rfl, Nat.zero_le _, fun j hj => by omega⟩
  case round =>
    obtain ⟨k, rfl, hk, hno⟩ := hrel
    by_cases hlt : k < rows.length
    · obtain ⟨ad, rfl, hc⟩ := HR.out (by omega)
      obtain ⟨row, hrow⟩ : ∃ row, row = rows.getD k [] := ⟨_, rfl⟩
      obtain ⟨B, cc, h1, h2, h3⟩ := hc k hlt
      rw [← hrow] at h1 h2 h3
      have HROW := Lib.hid hrow
      have HB := Lib.hid h3
      clear hc hrow h3
      by_cases t2 : row.length = 0
      · have e2 : ((row.length : Int) == 0) = true := by simp [t2]
        have hfin : rowsB rows = false := cdecide_false fun h => by have := (h.1 k hlt).1; rw [← HROW.out] at this; exact this t2
        have HF := Lib.hid hfin
        clear hfin t2
        go_wp2
        go_ret
        exact ⟨ret_bool (a := false) HF.out.symm, rfl⟩
      have e2 : ((row.length : Int) == 0) = false := by simp; intro h; exact t2 (by rw [h]; rfl)
      have HNZ := Lib.hid t2
      clear t2
      by_cases t3 : (2000 : Int) < (row.length : Int)
      · have e3 : decide ((2000 : Int) < (row.length : Int)) = true := decide_eq_true t3
        have hfin : rowsB rows = false := cdecide_false fun h => by have := (h.1 k hlt).2.1; rw [← HROW.out] at this; omega
        have HF := Lib.hid hfin
        clear hfin
        go_wp2
        go_ret
        exact ⟨ret_bool (a := false) HF.out.symm, rfl⟩
      have e3 : decide ((2000 : Int) < (row.length : Int)) = false := decide_eq_false t3
      go_wp2
      go_loop [23] (fun v => ∃ q : Nat, v = .int .i64 q ∧ q ≤ row.length ∧ Hid (∀ i, i < q → 128 ≤ row.getD i 0)) (fun v => row.length - (intOf v).toNat)
      case atStart => exact ⟨0, rfl, Nat.zero_le _, fun j hj => by omega⟩
      case round =>
        obtain ⟨q, rfl, hq, hno2⟩ := hrel
        by_cases hlt2 : q < row.length
        · obtain ⟨adB, rfl, hcB⟩ := HB.out.cell hlt2
          obtain ⟨x, hx⟩ : ∃ x, x = row.getD q 0 := ⟨_, rfl⟩
          rw [← hx] at hcB
          have HX := Lib.hid hx
          clear hx
          by_cases t4 : x < 128
          · have e4 : decide (x < 128) = true := decide_eq_true t4
            have hfin : rowsB rows = false := cdecide_false fun h => by have := (h.1 k hlt).2.2 q (by rw [← HROW.out]; exact hlt2); rw [← HROW.out, ← HX.out] at this; omega
            have HF := Lib.hid hfin
            clear hfin
            go_wp2
            go_ret
            exact ⟨ret_bool (a := false) HF.out.symm, rfl⟩
          · have e4 : decide (x < 128) = false := decide_eq_false t4
            go_wp2
            go_round
            case rel =>
              refine ⟨q + 1, by go_num, by omega, fun i hi => ?_⟩
              by_cases hik : i = q
              · rw [hik, ← HX.out]; omega
              · exact hno2.out i (by omega)
            case measure => simp [intOf]; omega
        · go_wp2
          go_round
          case rel =>
            refine ⟨k + 1, by go_num, by omega, fun j hj => ?_⟩
            by_cases hjk : j = k
            · rw [hjk, ← HROW.out]
              exact ⟨HNZ.out, by omega, fun i hi => hno2.out i (by omega)⟩
            · exact hno.out j (by omega)
          case measure => simp [intOf]; omega
    · have hall : RowsOk rows := fun j hj => hno.out j (by omega)
      by_cases t5 : rows.length ≤ 50
      · have e5 : decide ((rows.length : Int) ≤ 50) = true := decide_eq_true (by omega)
        have hfin : rowsB rows = true := cdecide_true ⟨hall, t5⟩
        have HF := Lib.hid hfin
        clear hfin hall
        go_wp2
        go_ret
        exact ⟨ret_bool (a := true) HF.out.symm, rfl⟩
      · have e5 : decide ((rows.length : Int) ≤ 50) = false := decide_eq_false (by omega)
        have hfin : rowsB rows = false := cdecide_false fun h => t5 h.2
        have HF := Lib.hid hfin
        clear hfin hall
        go_wp2
        go_ret
        exact ⟨ret_bool (a := false) HF.out.symm, rfl⟩

end Go.Proofs.Ytganmbbdmoldeaa.Mz
