/-
  impl.Minimize: bytes minimized for some rows; with tries enough: one of the rows, of which no byte may be left out.
  Conditions: at most 2000 bytes, at most 50 rows of at most 2000 bytes of 128 or more, none empty; the bytes are wanted; at most 65536 tries.
-/
import Derived.Test.YtganmbbdmoldeaaMAround
import Derived.Test.YtganmbbdmoldeaaMOneOf
namespace Go.Proofs.Ytganmbbdmoldeaa.Mz
open Go.RowKit
set_option linter.unusedSimpArgs false
set_option linter.unusedVariables false

set_option maxHeartbeats 400000 in
theorem keep_want (w1 : World) (H : Nat) (rows : List (List Int)) (B : Option Addr) (d : Nat) (hcell : w1.cell? ⟨H, 0, none⟩ = some (.slice B rows.length d)) (hB : RdR w1 B rows)
    (hl : ∀ j, j < rows.length → (rows.getD j []).length ≤ 2000) (hn : rows.length ≤ 50) : KeepC 21 H w1 (wantB rows) := by
  intro w xs A c hb hr hx hlx hbyt
  have hc : w.cell? ⟨H, 0, none⟩ = some (.slice B rows.length d) := (hb.cell (World.block_lt_of_cell? w1 _ hcell)).trans hcell
  have HC := Lib.hid (wanted22 w xs rows A B c d hr (hB.below hb) hlx hl hn)
  clear hcell hB hr hbyt hb hl
  go_enter Try.func21, Try.ntmps21
  go_wp2_with (go_at_call 22; refine HC.out.mono ?_; rintro e w' ⟨rfl, rfl⟩)
  go_ret
  exact ⟨rfl, 0, rfl⟩

set_option maxHeartbeats 400000 in
theorem minimize_calls (w : World) (b : List Int) (rows : List (List Int)) (A B : Option Addr) (c d S : Nat) (hA : RdS w A b) (hB : RdR w B rows) (hl : b.length ≤ 2000) (hx : Byt b)
    (hlr : ∀ j, j < rows.length → (rows.getD j []).length ≤ 2000) (hn : rows.length ≤ 50) (hS : S ≤ 65536) (h0 : wantB rows [] = false) (hwant : wantB rows b = true) :
    Calls Try.prog 14 #[.slice A b.length c, .slice B rows.length d, .int .i64 S] w
      fun e w' => ∃ R A' c', e = .returned (.slice A' R.length c') ∧ Reach (wantB rows) S b (.stop R) ∧ RdS w' A' R ∧ R.length ≤ c' ∧ Below w.heap.size w w' := by
  have hbpos : 0 < b.length := by
    cases b with
    | nil => rw [h0] at hwant; cases hwant
    | cons x r => simp
  have HA := Lib.hid hA
  have HB := Lib.hid hB
  have HX := Lib.hid hx
  have HP := Lib.hid hbpos
  have HH := Lib.hid hwant
  have H0 := Lib.hid h0
  have HL := Lib.hid hlr
  have hblk : Blk ((w.alloc (.cells #[.slice B rows.length d] 27)).alloc (.cells #[] 5)) (w.heap.size + 1) 5 [] := by
    have h := heap_alloc_new (w.alloc (.cells #[.slice B rows.length d] 27)) (.cells #[] 5)
    have e : (w.alloc (.cells #[.slice B rows.length d] 27)).heap.size = w.heap.size + 1 := by simp
    rw [e] at h
    exact h
  have HG := Lib.hid hblk
  clear hA hB hx hbpos hwant h0 hblk hlr
  go_enter Try.func14, Try.ntmps14
  go_wp2_with (at_builtin; refine wpList_empty_append rfl (.tmp 7) (.tmp 8) rfl rfl HG.out b A c rfl ((HA.out.alloc _).alloc _) HP.out hl ?_; intro g' cap w1 hr1 hcap hg1)
  have hb1 : Below w.heap.size w w1 := ((((Below.refl _ _).alloc (Nat.le_refl _) _).alloc (by simp) _).grown hg1 (by simp; omega) (fun k hk => by injection hk with hk; omega))
  have hcell : w1.cell? ⟨w.heap.size, 0, none⟩ = some (.slice B rows.length d) := by
    have h1 : Blk (w.alloc (.cells #[.slice B rows.length d] 27)) w.heap.size 27 [.slice B rows.length d] := heap_alloc_new w _
    have h2 := (h1.alloc (.cells #[] 5)).grown hg1 (by intro e; injection e with e; omega)
    exact h2.cell 0
  have hB1 := HB.out.below hb1
  refine (min_calls (wantB rows) 21 w.heap.size w1 b _ cap S enters21 (keep_want w1 _ rows B d hcell hB1 HL.out hn) H0.out HH.out hr1 hl HX.out hS).mono ?_
  clear hr1 hcap hcell hB1 hg1
  rintro e w2 ⟨R, A', c', rfl, hR, hrd, hle, hb2⟩
  have HF := Lib.hid (And.intro hR (And.intro hrd (And.intro hle (hb1.trans (hb2.mono hb1.size)))))
  clear hR hrd hle hb2 hb1
  go_wp2_with fail
  go_ret
  exact ⟨R, A', c', rfl, HF.out⟩

/-! ### Plain -/
theorem wantB_of {rows : List (List Int)} {all : List Int} (h : wantB rows all = true) : Wants rows all := of_cdecide h
theorem wantB_true {rows : List (List Int)} {all : List Int} (h : Wants rows all) : wantB rows all = true := cdecide_true h

/-- A number that stands not in a row helps it nowhere. -/
theorem sub_drop_mid {row l1 l2 : List Int} {x : Int} (hx : x ∉ row) (h : row.Sublist (l1 ++ x :: l2)) : row.Sublist (l1 ++ l2) := by
  rw [List.sublist_append_iff] at h
  obtain ⟨r1, r2, rfl, h1, h2⟩ := h
  refine List.Sublist.append h1 ?_
  cases h2 with
  | cons _ h3 => exact h3
  | cons_cons _ h3 => exact absurd (by simp) hx

theorem rowish_want {rows : List (List Int)} (hr : RowsOk rows) : Rowish (wantB rows) where
  mono x y hs h := by
    obtain ⟨j, hj, hw⟩ := wantB_of h
    exact wantB_true ⟨j, hj, hw.trans hs⟩
  none := cdecide_false fun ⟨j, hj, hs⟩ => by
    have := List.eq_nil_of_sublist_nil hs
    exact (hr j hj).1 (by rw [this]; rfl)
  low v i x hx hi h := by
    obtain ⟨j, hj, hw⟩ := wantB_of h
    refine wantB_true ⟨j, hj, ?_⟩
    have hn : x ∉ rows.getD j [] := by
      intro hm
      obtain ⟨q, hq, he⟩ := List.getElem_of_mem hm
      have := (hr j hj).2.2 q hq
      rw [List.getD_eq_getElem?_getD (l := rows.getD j []), List.getElem?_eq_getElem hq] at this
      simp only [Option.getD_some] at this
      omega
    have e : v.set i x = v.take i ++ x :: v.drop (i + 1) := by
      rw [List.set_eq_take_append_cons_drop, if_pos hi]
    rw [e] at hw
    exact sub_drop_mid hn hw

/-- What stands in others, and is not all of them, stands there without some one. -/
theorem sub_less : ∀ {row all : List Int}, row.Sublist all → row ≠ all → ∃ i, i < all.length ∧ row.Sublist (cutOut all i (i + 1))
  | _, _, .slnil, h => absurd rfl h
  | row, a :: l2, .cons _ hs, _ => ⟨0, by simp, by simpa [cutOut] using hs⟩
  | a :: l1, _ :: l2, .cons_cons _ hs, h => by
    obtain ⟨i, hi, hs2⟩ := sub_less hs (fun e => h (by rw [e]))
    refine ⟨i + 1, by simp; omega, ?_⟩
    have e : cutOut (a :: l2) (i + 1) (i + 1 + 1) = a :: cutOut l2 i (i + 1) := by simp [cutOut]
    rw [e]
    exact hs2.cons_cons a

theorem one_of_tight {rows : List (List Int)} {R : List Int} (h1 : wantB rows R = true) (h2 : OneMin (wantB rows) R) : oneB rows R = true := by
  obtain ⟨j, hj, hs⟩ := wantB_of h1
  refine cdecide_true ⟨j, hj, ?_⟩
  by_cases e : rows.getD j [] = R
  · exact e
  · obtain ⟨i, hi, hs2⟩ := sub_less hs e
    have := h2 i hi
    rw [wantB_true ⟨j, hj, hs2⟩] at this
    cases this

end Go.Proofs.Ytganmbbdmoldeaa.Mz
