/-
  The laws FnPart and FnTwice walked over slices that read as lists: each returns true and turns nothing that was there.
  Conditions: none beside that the slices can be read.
-/
import Derived.Test.YtganmbbdmoldeaaMAround
namespace Go.Proofs.Ytganmbbdmoldeaa.Mz
open Go.RowKit
set_option linter.unusedSimpArgs false
set_option linter.unusedVariables false

set_option maxHeartbeats 400000 in
theorem enough_calls (n : Nat) (S : Int) (hn : n ≤ 2000) (h1 : -9223372036854775808 ≤ S) (h2 : S ≤ 9223372036854775807) (w : World) :
    Calls Try.prog 8 #[.int .i64 n, .int .i64 S] w fun e w' => e = .returned (.bool (decide (2 * (n : Int) + 64 ≤ S) && decide (S ≤ 65536))) ∧ w = w' := by
  by_cases hA : 2 * (n : Int) + 64 ≤ S
  · have e1 : decide (2 * (n : Int) + 64 ≤ S) = true := decide_eq_true hA
    by_cases hB : S ≤ 65536
    · have e2 : decide (S ≤ 65536) = true := decide_eq_true hB
      go_enter Try.func8, Try.ntmps8
      go_wp2
      go_ret
      exact ⟨ret_bool (a := true) (by simp [hA, hB]), rfl⟩
    · have e2 : decide (S ≤ 65536) = false := decide_eq_false hB
      go_enter Try.func8, Try.ntmps8
      go_wp2
      go_ret
      exact ⟨ret_bool (a := false) (by simp [hB]), rfl⟩
  · have e1 : decide (2 * (n : Int) + 64 ≤ S) = false := decide_eq_false hA
    go_enter Try.func8, Try.ntmps8
    go_wp2
    go_ret
    exact ⟨ret_bool (a := false) (by simp [hA]), rfl⟩

theorem below_drewN_ (w : World) (m : Nat) : Below w.heap.size w (w.drewN m) := ⟨rfl, rfl, rfl, Nat.le_refl _, fun _ _ => rfl⟩

set_option maxRecDepth 100000 in
set_option maxHeartbeats 1000000 in
theorem part_walk (w : World) (xs ys : List Int) (A B : Option Addr) (c d : Nat) (S : Int) (hA : RdS w A xs) (hB : RdS w B ys) (hx : Byt xs) (hy : Byt ys) (hc : xs.length ≤ c) (hd : ys.length ≤ d)
    (hmx : xs.length ≤ 9223372036854775807) (hmy : ys.length ≤ 9223372036854775807) (hS1 : -9223372036854775808 ≤ S) (hS2 : S ≤ 9223372036854775807) :
    Calls Try.prog 3 #[.slice A xs.length c, .slice B ys.length d, .int .i64 S] w fun e w' => e = .returned (.bool true) ∧ Below w.heap.size w w' := by
  have HA := Lib.hid hA
  have HB := Lib.hid hB
  have HX := Lib.hid hx
  have HY := Lib.hid hy
  clear hA hB hx hy
  by_cases t1 : (2147483647 : Int) < (xs.length : Int)
  · have e1 : decide ((2147483647 : Int) < (xs.length : Int)) = true := decide_eq_true t1
    go_enter Try.func3, Try.ntmps3
    go_wp2_with fail
    go_ret
    exact ⟨rfl, Below.refl _ _⟩
  by_cases t2 : (2147483647 : Int) < (ys.length : Int)
  · have e1 : decide ((2147483647 : Int) < (xs.length : Int)) = false := decide_eq_false t1
    have e2 : decide ((2147483647 : Int) < (ys.length : Int)) = true := decide_eq_true t2
    go_enter Try.func3, Try.ntmps3
    go_wp2_with fail
    go_ret
    exact ⟨rfl, Below.refl _ _⟩
  have e1 : decide ((2147483647 : Int) < (xs.length : Int)) = false := decide_eq_false t1
  have e2 : decide ((2147483647 : Int) < (ys.length : Int)) = false := decide_eq_false t2
  clear t1 t2
  by_cases t3 : (2000 : Int) < (xs.length : Int)
  · have e3 : decide ((2000 : Int) < (xs.length : Int)) = true := decide_eq_true t3
    go_enter Try.func3, Try.ntmps3
    go_wp2_with fail
    go_ret
    exact ⟨rfl, Below.refl _ _⟩
  have e3 : decide ((2000 : Int) < (xs.length : Int)) = false := decide_eq_false t3
  by_cases t4 : ys.length = 0
  · have e4 : ((ys.length : Int) == 0) = true := by simp [t4]
    clear t4
    go_enter Try.func3, Try.ntmps3
    go_wp2_with fail
    go_ret
    exact ⟨rfl, Below.refl _ _⟩
  have e4 : ((ys.length : Int) == 0) = false := by simp; intro h; exact t4 (by rw [h]; rfl)
  by_cases t5 : xs.length < ys.length
  · have e5 : decide (xs.length < ys.length) = true := decide_eq_true t5
    clear t4
    go_enter Try.func3, Try.ntmps3
    go_wp2_with fail
    go_ret
    exact ⟨rfl, Below.refl _ _⟩
  have e5 : decide (xs.length < ys.length) = false := decide_eq_false t5
  have hl : xs.length ≤ 2000 := by omega
  have hp : ys.length ≤ 2000 := by omega
  have hpos : 0 < ys.length := by omega
  have HPOS := Lib.hid hpos
  clear t3 t4 t5 hpos
  have H7 := Lib.hid (has7 w xs ys A B c d HA.out HB.out hc hl hp HX.out HY.out)
  cases hh : hasB xs ys with
  | false =>
    have H7' := H7.out
    rw [hh] at H7'
    have H8 := Lib.hid H7'
    clear H7 H7' hh
    go_enter Try.func3, Try.ntmps3
    go_wp2_with (go_at_call 7; refine H8.out.mono ?_; rintro e w' ⟨rfl, m, rfl⟩)
    go_ret
    exact ⟨rfl, below_drewN_ w m⟩
  | true =>
    have H7' := H7.out
    rw [hh] at H7'
    have H8 := Lib.hid H7'
    have HH := Lib.hid hh
    clear H7 H7' hh
    cases he : (decide (2 * (xs.length : Int) + 64 ≤ S) && decide (S ≤ 65536)) with
    | false =>
      have HE : Hid (∀ W, Calls Try.prog 8 #[.int .i64 (xs.length : Int), .int .i64 S] W fun e w' => e = .returned (.bool false) ∧ W = w') := fun W => by
        have := enough_calls xs.length S hl hS1 hS2 W
        rwa [he] at this
      clear he
      go_enter Try.func3, Try.ntmps3
      go_wp2_with (first | (go_at_call 7; refine H8.out.mono ?_; rintro e w' ⟨rfl, m, rfl⟩) | (go_at_call 8; refine (HE.out _).mono ?_; rintro e w' ⟨rfl, rfl⟩))
      go_ret
      exact ⟨rfl, below_drewN_ w m⟩
    | true =>
      have HE : Hid (∀ W, Calls Try.prog 8 #[.int .i64 (xs.length : Int), .int .i64 S] W fun e w' => e = .returned (.bool true) ∧ W = w') := fun W => by
        have := enough_calls xs.length S hl hS1 hS2 W
        rwa [he] at this
      rw [Bool.and_eq_true, decide_eq_true_iff, decide_eq_true_iff] at he
      obtain ⟨s, rfl⟩ := Int.eq_ofNat_of_zero_le (show 0 ≤ S by omega)
      have HS := Lib.hid he
      clear he
      go_enter Try.func3, Try.ntmps3
      go_wp2_with (first | (go_at_call 7; refine H8.out.mono ?_; rintro e w' ⟨rfl, m, rfl⟩) | (go_at_call 8; refine (HE.out _).mono ?_; rintro e w' ⟨rfl, rfl⟩))
      have hS := HS.out
      have hA1 : RdS (w.drewN m) A xs := HA.out
      have hB1 : RdS (w.drewN m) B ys := HB.out
      refine (around_part (w.drewN m) xs ys A B c d s hA1 hB1 hl hp HX.out HY.out (by omega) HPOS.out HH.out (by omega)).mono ?_
      clear hS hA1 hB1
      rintro e w2 ⟨A', c', rfl, hr, hle, hb⟩
      have hb' : Below w.heap.size w w2 := (below_drewN_ w m).trans hb
      have H9 := Lib.hid (equal9 w2 ys ys A' B c' d hr (HB.out.below hb') HY.out HY.out)
      have HBB := Lib.hid hb'
      clear hr hle hb hb'
      go_wp2_with (go_at_call 9; refine H9.out.mono ?_; rintro e w3 ⟨rfl, rfl⟩)
      go_ret
      exact ⟨ret_bool (by simp), HBB.out⟩

end Go.Proofs.Ytganmbbdmoldeaa.Mz
