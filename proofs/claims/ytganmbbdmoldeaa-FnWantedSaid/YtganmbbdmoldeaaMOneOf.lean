/-
  What spec.One and impl.wanted tell.
  Conditions: that the slices can be read; the sizes that each theorem states.
-/
import Derived.Test.YtganmbbdmoldeaaMWant
namespace Go.Proofs.Ytganmbbdmoldeaa.Mz
open Go.RowKit
set_option linter.unusedSimpArgs false
set_option linter.unusedVariables false

set_option maxHeartbeats 1000000 in
theorem one16 (w : World) (all : List Int) (rows : List (List Int)) (A B : Option Addr) (c d : Nat) (hA : RdS w A all) (hB : RdR w B rows) (hy : Byt all) (hyr : ∀ j, Byt (rows.getD j [])) (hn : rows.length ≤ 50) :
    Calls Try.prog 16 #[.slice A all.length c, .slice B rows.length d] w fun e w' => e = .returned (.bool (oneB rows all)) ∧ w = w' := by
  have hc2 := hA.string c
  have HR := Lib.hid hB
  have HY := Lib.hid hy
  have HYR := Lib.hid hyr
  clear hA hB hy hyr
  go_enter Try.func16, Try.ntmps16
  go_wp2
  go_loop [9] (fun v => ∃ k : Nat, v = .int .i64 k ∧ k ≤ rows.length ∧ Hid (∀ j, j < k → ¬ rows.getD j [] = all)) (fun v => rows.length - (intOf v).toNat)
  case atStart => exact ⟨0, rfl, Nat.zero_le _, fun j hj => by omega⟩
  case round =>
    obtain ⟨k, rfl, hk, hno⟩ := hrel
    by_cases hlt : k < rows.length
    · obtain ⟨ad, rfl, hc1⟩ := HR.out (by omega)
      obtain ⟨row, hrow⟩ : ∃ row, row = rows.getD k [] := ⟨_, rfl⟩
      obtain ⟨B, cc, h1, h2, h3⟩ := hc1 k hlt
      have hyk := HYR.out k
      rw [← hrow] at h1 h2 h3 hyk
      have hcv := h3.string cc
      have hbeq := str_beq hyk HY.out
      have HROW := Lib.hid hrow
      clear hc1 hrow h3 hyk
      by_cases hq : row = all
      · rw [decide_eq_true hq] at hbeq
        have hfin : oneB rows all = true := cdecide_true ⟨k, hlt, by rw [← HROW.out]; exact hq⟩
        have HF := Lib.hid hfin
        clear hfin hq
        go_wp2
        go_ret
        exact ⟨ret_bool (a := true) HF.out.symm, rfl⟩
      · rw [decide_eq_false hq] at hbeq
        have HQ := Lib.hid hq
        clear hq
        go_wp2
        go_round
        case rel =>
          refine ⟨k + 1, by go_num, by omega, fun j hj => ?_⟩
          by_cases hjk : j = k
          · rw [hjk, ← HROW.out]; exact HQ.out
          · exact hno.out j (by omega)
        case measure => simp [intOf]; omega
    · have hfin : oneB rows all = false := cdecide_false fun ⟨j, hj, hs⟩ => hno.out j (by omega) hs
      have HF := Lib.hid hfin
      clear hfin
      go_wp2
      go_ret
      exact ⟨ret_bool (a := false) HF.out.symm, rfl⟩

set_option maxHeartbeats 1000000 in
theorem wanted22 (w : World) (all : List Int) (rows : List (List Int)) (A B : Option Addr) (c d : Nat) (hA : RdS w A all) (hB : RdR w B rows) (hm : all.length ≤ 2000) (hl : ∀ j, j < rows.length → (rows.getD j []).length ≤ 2000) (hn : rows.length ≤ 50) :
    Calls Try.prog 22 #[.slice A all.length c, .slice B rows.length d] w fun e w' => e = .returned (.bool (wantB rows all)) ∧ w = w' := by
  have HA := Lib.hid hA
  have HR := Lib.hid hB
  have HL := Lib.hid hl
  clear hA hB hl
  go_enter Try.func22, Try.ntmps22
  go_wp2
  go_loop [12] (fun v => ∃ k : Nat, v = .int .i64 k ∧ k ≤ rows.length ∧ Hid (∀ j, j < k → ¬ (rows.getD j []).Sublist all)) (fun v => rows.length - (intOf v).toNat)
  case atStart => exact ⟨0, rfl, Nat.zero_le _, fun j hj => by omega⟩
  case round =>
    obtain ⟨k, rfl, hk, hno⟩ := hrel
    by_cases hlt : k < rows.length
    · obtain ⟨ad, rfl, hc1⟩ := HR.out (by omega)
      obtain ⟨row, hrow⟩ : ∃ row, row = rows.getD k [] := ⟨_, rfl⟩
      obtain ⟨B, cc, h1, h2, h3⟩ := hc1 k hlt
      have hl2 := HL.out k hlt
      rw [← hrow] at h1 h2 h3 hl2
      have HROW := Lib.hid hrow
      have HB := Lib.hid h3
      clear hc1 hrow h3
      go_wp2
      go_loop [7, 18] (fun vk v => ∃ j q : Nat, v = .int .i64 j ∧ j ≤ all.length ∧ vk = .int .i64 q ∧ q ≤ row.length ∧ Hid (row.drop q = (all.take j).foldl wstep row)) (fun _ v => all.length - (intOf v).toNat)
      case atStart => exact ⟨0, 0, rfl, Nat.zero_le _, rfl, Nat.zero_le _, rfl⟩
      case round =>
        obtain ⟨j, q, rfl, hj, rfl, hq, hdrop⟩ := hrel
        by_cases hlt2 : j < all.length
        · obtain ⟨adA, rfl, hcA⟩ := HA.out.cell hlt2
          obtain ⟨x, hx⟩ : ∃ x, x = all.getD j 0 := ⟨_, rfl⟩
          rw [← hx] at hcA
          have hnext := fold_snoc all row j hlt2
          rw [← hdrop.out, ← hx] at hnext
          have HN := Lib.hid hnext
          clear hx hnext hdrop
          by_cases hq2 : q < row.length
          · obtain ⟨adB, rfl, hcB⟩ := HB.out.cell hq2
            obtain ⟨y, hy⟩ : ∃ y, y = row.getD q 0 := ⟨_, rfl⟩
            rw [← hy] at hcB
            have hd : row.drop q = y :: row.drop (q + 1) := by
              rw [hy, List.getD_eq_getElem?_getD, List.getElem?_eq_getElem hq2, List.drop_eq_getElem_cons hq2]
              rfl
            have HD := Lib.hid hd
            have e0 : decide (q < row.length) = true := decide_eq_true hq2
            clear hy hd
            by_cases hyx : y = x
            · have e1 : (y == x) = true := by simp [hyx]
              have hw : wstep (row.drop q) x = row.drop (q + 1) := by rw [HD.out]; simp only [wstep]; rw [if_pos hyx]
              rw [hw] at HN
              clear hyx hw
              go_wp2
              go_round
              case rel => exact ⟨j + 1, q + 1, by go_num, by omega, by go_num, by omega, HN.out.symm⟩
              case measure => simp [intOf]; omega
            · have e1 : (y == x) = false := by simp [hyx]
              have hw : wstep (row.drop q) x = row.drop q := by rw [HD.out]; simp only [wstep]; rw [if_neg hyx]
              rw [hw] at HN
              clear hyx hw
              go_wp2
              go_round
              case rel => exact ⟨j + 1, q, by go_num, by omega, rfl, by omega, HN.out.symm⟩
              case measure => simp [intOf]; omega
          · have e0 : decide (q < row.length) = false := decide_eq_false hq2
            have hw : wstep (row.drop q) x = row.drop q := by rw [List.drop_of_length_le (by omega)]; rfl
            rw [hw] at HN
            clear hw
            go_wp2
            go_round
            case rel => exact ⟨j + 1, q, by go_num, by omega, rfl, by omega, HN.out.symm⟩
            case measure => simp [intOf]; omega
        · have hall : row.drop q = all.foldl wstep row := by rw [hdrop.out, List.take_of_length_le (by omega)]
          by_cases h0 : q = row.length
          · have hs : row.Sublist all := (fold_sub all row).1 (by rw [← hall, h0, List.drop_length])
            have hfin : wantB rows all = true := cdecide_true ⟨k, hlt, by rw [← HROW.out]; exact hs⟩
            have HF := Lib.hid hfin
            have e2 : ((q : Int) == (row.length : Int)) = true := by simp [h0]
            clear hfin hs hall hdrop h0
            go_wp2
            go_ret
            exact ⟨ret_bool (a := true) HF.out.symm, rfl⟩
          · have hs : ¬ row.Sublist all := fun h => by
              have := (fold_sub all row).2 h
              rw [← hall] at this
              have := congrArg List.length this
              rw [List.length_drop, List.length_nil] at this
              omega
            have HS := Lib.hid hs
            have e2 : ((q : Int) == (row.length : Int)) = false := by simp; omega
            clear hs hall hdrop h0
            go_wp2
            go_round
            case rel =>
              refine ⟨k + 1, by go_num, by omega, fun j hj => ?_⟩
              by_cases hjk : j = k
              · rw [hjk, ← HROW.out]; exact HS.out
              · exact hno.out j (by omega)
            case measure => simp [intOf]; omega
    · have hfin : wantB rows all = false := cdecide_false fun ⟨j, hj, hs⟩ => hno.out j (by omega) hs
      have HF := Lib.hid hfin
      clear hfin
      go_wp2
      go_ret
      exact ⟨ret_bool (a := false) HF.out.symm, rfl⟩

end Go.Proofs.Ytganmbbdmoldeaa.Mz
