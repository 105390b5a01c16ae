/-
  What spec.Within, spec.Wanted, spec.One and impl.wanted tell: whether a row stands among bytes, in order; whether one of some rows does; whether bytes are one of some rows.
  Conditions: that the slices can be read; the sizes that each theorem states.
-/
import Derived.Test.YtganmbbdmoldeaaMRows
namespace Go.Proofs.Ytganmbbdmoldeaa.Mz
open Go.RowKit
set_option linter.unusedSimpArgs false
set_option linter.unusedVariables false

/-! ### Plain -/
/-- What is left of a row behind one byte more. -/
def wstep : List Int → Int → List Int
  | [], _ => []
  | r :: rest, b => if r = b then rest else r :: rest

theorem wstep_nil : ∀ all : List Int, all.foldl wstep [] = []
  | [] => rfl
  | _ :: t => wstep_nil t

theorem fold_sub : ∀ (all row : List Int), all.foldl wstep row = [] ↔ row.Sublist all
  | [], row => by
    constructor
    · intro h; have h : row = [] := h; rw [h]; exact List.Sublist.refl _
    · intro h; exact List.eq_nil_of_sublist_nil h
  | b :: t, [] => by
    constructor
    · intro _; exact List.nil_sublist _
    · intro _; exact wstep_nil _
  | b :: t, r :: rest => by
    show t.foldl wstep (if r = b then rest else r :: rest) = [] ↔ _
    by_cases h : r = b
    · subst h
      rw [if_pos rfl, fold_sub t rest, List.cons_sublist_cons]
    · rw [if_neg h, fold_sub t (r :: rest)]
      constructor
      · exact fun hs => hs.cons b
      · intro hs
        cases hs with
        | cons _ h1 => exact h1
        | cons_cons _ h1 => exact absurd rfl h

theorem fold_len : ∀ (all row : List Int), (all.foldl wstep row).length ≤ row.length
  | [], row => Nat.le_refl _
  | b :: t, row => by
    have h1 := fold_len t (wstep row b)
    have h2 : (wstep row b).length ≤ row.length := by
      cases row with
      | nil => exact Nat.le_refl _
      | cons r rest => simp only [wstep]; split <;> simp
    exact Nat.le_trans h1 h2

theorem fold_snoc (all row : List Int) (j : Nat) (h : j < all.length) : (all.take (j + 1)).foldl wstep row = wstep ((all.take j).foldl wstep row) (all.getD j 0) := by
  rw [List.take_succ_eq_append_getElem h, List.foldl_append, List.getD_eq_getElem?_getD, List.getElem?_eq_getElem h]
  rfl

noncomputable def withinB (row all : List Int) : Bool := @decide (row.Sublist all) (Classical.propDecidable _)
def Wants (rows : List (List Int)) (all : List Int) : Prop := ∃ j, j < rows.length ∧ (rows.getD j []).Sublist all
noncomputable def wantB (rows : List (List Int)) (all : List Int) : Bool := @decide (Wants rows all) (Classical.propDecidable _)
def IsOne (rows : List (List Int)) (all : List Int) : Prop := ∃ j, j < rows.length ∧ rows.getD j [] = all
noncomputable def oneB (rows : List (List Int)) (all : List Int) : Bool := @decide (IsOne rows all) (Classical.propDecidable _)

/-! ### The walks -/
theorem run_tail (A : Option Addr) (n c : Nat) (h1 : 1 ≤ n) (W : World) :
    (Instr.slice 22 (.slice A n c) (some (.int .i64 1)) none none).run Try.prog W = .ok (.slice (if c = 1 then A else A.map (·.add 1)) (n - 1) (c - 1)) W := by
  obtain ⟨i0, hi0, _, hz1, _⟩ := info_parts info5
  have hel : Try.prog.elem 22 = 5 := by simp [Program.elem, Try.underlying22]
  have hu : Try.prog.underlying 22 = some (.slice (Try.prog.elem 22)) := by rw [hel]; exact Try.underlying22
  rw [run_slice_l W 22 A n c hu .i64 1 (by omega) (by omega), hel]
  simp [sizeOf, typeInfo, hi0, hz1, sliced, Result.andThen]

set_option maxHeartbeats 1000000 in
theorem within20 (w : World) (row all : List Int) (A B : Option Addr) (c d : Nat) (hA : RdS w A row) (hB : RdS w B all) (hc : row.length ≤ c) (hl : row.length ≤ 2000) (hm : all.length ≤ 2000) :
    Calls Try.prog 20 #[.slice A row.length c, .slice B all.length d] w fun e w' => e = .returned (.bool (withinB row all)) ∧ w = w' := by
  have HA := Lib.hid hA
  have HB := Lib.hid hB
  clear hA hB
  go_enter Try.func20, Try.ntmps20
  go_wp2
  go_loop [0, 9] (fun v0 v => ∃ (j : Nat) (rest : List Int) (Ar : Option Addr) (cr : Nat), v = .int .i64 j ∧ j ≤ all.length ∧ v0 = .slice Ar rest.length cr ∧ Hid (RdS w Ar rest) ∧ rest.length ≤ cr ∧ rest.length ≤ 2000 ∧ Hid (rest = (all.take j).foldl wstep row)) (fun _ v => all.length - (intOf v).toNat)
  case atStart => exact ⟨0, row, A, c, rfl, Nat.zero_le _, rfl, HA, hc, hl, rfl⟩
  case round =>
    obtain ⟨j, rest, Ar, cr, rfl, hj, rfl, HR, hcr, hlr, hrest⟩ := hrel
    by_cases hlt : j < all.length
    · obtain ⟨adB, rfl, hcB⟩ := HB.out.cell hlt
      obtain ⟨x, hx⟩ : ∃ x, x = all.getD j 0 := ⟨_, rfl⟩
      rw [← hx] at hcB
      have hnext := fold_snoc all row j hlt
      rw [← hrest.out, ← hx] at hnext
      have HN := Lib.hid hnext
      clear hx hnext hrest
      cases rest with
      | nil =>
        go_wp2
        go_round
        case rel => exact ⟨j + 1, [], Ar, cr, by go_num, by omega, rfl, HR, hcr, hlr, HN.out.symm⟩
        case measure => simp [intOf]; omega
      | cons r tl =>
        obtain ⟨ad, rfl, hc0⟩ := HR.out.cell (i := 0) (by simp)
        have h0 : w.cell? ad = some (.int .u8 r) := by
          have e : ad.add 0 = ad := by simp [Addr.add]
          rw [e] at hc0
          exact hc0
        have hcut := run_tail (some ad) (tl.length + 1) cr (by omega)
        have htl : RdS w (if cr = 1 then some ad else (some ad).map (·.add 1)) tl := by
          have h := HR.out.mid 1 tl.length cr (by simp; omega) hcr
          simpa using h
        generalize (if cr = 1 then some ad else (some ad).map (·.add 1)) = A1 at hcut htl
        rw [Nat.add_sub_cancel] at hcut
        have HT := Lib.hid htl
        clear hc0 htl
        have hlen : (r :: tl).length = tl.length + 1 := rfl
        rw [hlen] at hcr hlr
        clear hlen
        by_cases hq : r = x
        · have e1 : (r == x) = true := by simp [hq]
          have hw : wstep (r :: tl) x = tl := by simp only [wstep]; rw [if_pos hq]
          rw [hw] at HN
          clear hq hw
          go_wp2
          go_round
          case rel => exact ⟨j + 1, tl, A1, cr - 1, by go_num, by omega, rfl, HT, by omega, by omega, HN.out.symm⟩
          case measure => simp [intOf]; omega
        · have e1 : (r == x) = false := by simp [hq]
          have hw : wstep (r :: tl) x = r :: tl := by simp only [wstep]; rw [if_neg hq]
          rw [hw] at HN
          clear hq hw
          go_wp2
          go_round
          case rel => exact ⟨j + 1, r :: tl, some ad, cr, by go_num, by omega, rfl, HR, by simpa using hcr, by simpa using hlr, HN.out.symm⟩
          case measure => simp [intOf]; omega
    · have hall : rest = all.foldl wstep row := by rw [hrest.out, List.take_of_length_le (by omega)]
      by_cases h0 : rest = []
      · have hfin : withinB row all = true := cdecide_true ((fold_sub all row).1 (by rw [← hall]; exact h0))
        have HF := Lib.hid hfin
        subst h0
        clear hfin hall hrest
        go_wp2
        go_ret
        exact ⟨ret_bool (a := true) HF.out.symm, rfl⟩
      · have hfin : withinB row all = false := cdecide_false fun h => h0 (by rw [hall]; exact (fold_sub all row).2 h)
        have e0 : ((rest.length : Int) == 0) = false := by simp; exact h0
        have HF := Lib.hid hfin
        clear hfin hall hrest h0
        go_wp2
        go_ret
        exact ⟨ret_bool (a := false) HF.out.symm, rfl⟩

set_option maxHeartbeats 1000000 in
theorem wanted13 (w : World) (all : List Int) (rows : List (List Int)) (A B : Option Addr) (c d : Nat) (hA : RdS w A all) (hB : RdR w B rows) (hc : all.length ≤ c) (hm : all.length ≤ 2000) (hl : ∀ j, j < rows.length → (rows.getD j []).length ≤ 2000) (hn : rows.length ≤ 50) :
    Calls Try.prog 13 #[.slice A all.length c, .slice B rows.length d] w fun e w' => e = .returned (.bool (wantB rows all)) ∧ w = w' := by
  have HA := Lib.hid hA
  have HR := Lib.hid hB
  have HL := Lib.hid hl
  clear hA hB hl
  go_enter Try.func13, Try.ntmps13
  go_wp2
  go_loop [9] (fun v => ∃ k : Nat, v = .int .i64 k ∧ k ≤ rows.length ∧ Hid (∀ j, j < k → ¬ (rows.getD j []).Sublist all)) (fun v => rows.length - (intOf v).toNat)
  case atStart => exact ⟨0, rfl, Nat.zero_le _, fun j hj => by omega⟩
  case round =>
    obtain ⟨k, rfl, hk, hno⟩ := hrel
    by_cases hlt : k < rows.length
    · obtain ⟨ad, rfl, hc1⟩ := HR.out (by omega)
      obtain ⟨row, hrow⟩ : ∃ row, row = rows.getD k [] := ⟨_, rfl⟩
      obtain ⟨B, cc, h1, h2, h3⟩ := hc1 k hlt
      have hl2 := HL.out k hlt
      rw [← hrow] at h1 h2 h3 hl2
      have HROW := Lib.hid hrow
      have HC := Lib.hid (within20 w row all B A cc c h3 HA.out h2 hl2 hm)
      clear hc1 hrow h3
      cases hw : withinB row all with
      | true =>
        have hs : row.Sublist all := of_cdecide hw
        have hfin : wantB rows all = true := cdecide_true ⟨k, hlt, by rw [← HROW.out]; exact hs⟩
        have HF := Lib.hid hfin
        rw [hw] at HC
        clear hfin hs hw
        go_wp2_with (go_at_call 20; refine HC.out.mono ?_; rintro e w' ⟨rfl, rfl⟩)
        go_ret
        exact ⟨ret_bool (a := true) HF.out.symm, rfl⟩
      | false =>
        have hs : ¬ row.Sublist all := fun h => by rw [withinB, cdecide_true h] at hw; cases hw
        have HS := Lib.hid hs
        rw [hw] at HC
        clear hs hw
        go_wp2_with (go_at_call 20; refine HC.out.mono ?_; rintro e w' ⟨rfl, rfl⟩)
        go_round
        case rel =>
          refine ⟨k + 1, by go_num, by omega, fun j hj => ?_⟩
          by_cases hjk : j = k
          · rw [hjk, ← HROW.out]; exact HS.out
          · exact hno.out j (by omega)
        case measure => simp [intOf]; omega
    · have hfin : wantB rows all = false := cdecide_false fun ⟨j, hj, hs⟩ => hno.out j (by omega) hs
      have HF := Lib.hid hfin
      clear hfin
      go_wp2_with fail
      go_ret
      exact ⟨ret_bool (a := false) HF.out.symm, rfl⟩

end Go.Proofs.Ytganmbbdmoldeaa.Mz
