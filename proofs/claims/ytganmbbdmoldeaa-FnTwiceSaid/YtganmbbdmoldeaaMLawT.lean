/-
  The law FnTwice walked over slices that read as lists: it returns true and turns nothing that was there.
  Conditions: none beside that the slices can be read.
-/
import Derived.Test.YtganmbbdmoldeaaMLawP
namespace Go.Proofs.Ytganmbbdmoldeaa.Mz
open Go.RowKit
set_option linter.unusedSimpArgs false
set_option linter.unusedVariables false

set_option maxRecDepth 100000 in
set_option maxHeartbeats 1000000 in
theorem twice_walk (w : World) (xs ys : List Int) (A B : Option Addr) (c d : Nat) (S : Int) (hA : RdS w A xs) (hB : RdS w B ys) (hx : Byt xs) (hy : Byt ys) (hc : xs.length ≤ c) (hd : ys.length ≤ d)
    (hmx : xs.length ≤ 9223372036854775807) (hmy : ys.length ≤ 9223372036854775807) (hS1 : -9223372036854775808 ≤ S) (hS2 : S ≤ 9223372036854775807) :
    Calls Try.prog 4 #[.slice A xs.length c, .slice B ys.length d, .int .i64 S] w fun e w' => e = .returned (.bool true) ∧ Below w.heap.size w w' := by
  have HA := Lib.hid hA
  have HB := Lib.hid hB
  have HX := Lib.hid hx
  have HY := Lib.hid hy
  clear hA hB hx hy
  by_cases t1 : (2147483647 : Int) < (xs.length : Int)
  · have e1 : decide ((2147483647 : Int) < (xs.length : Int)) = true := decide_eq_true t1
    go_enter Try.func4, Try.ntmps4
    go_wp2_with fail
    go_ret
    exact ⟨rfl, Below.refl _ _⟩
  by_cases t2 : (2147483647 : Int) < (ys.length : Int)
  · have e1 : decide ((2147483647 : Int) < (xs.length : Int)) = false := decide_eq_false t1
    have e2 : decide ((2147483647 : Int) < (ys.length : Int)) = true := decide_eq_true t2
    go_enter Try.func4, Try.ntmps4
    go_wp2_with fail
    go_ret
    exact ⟨rfl, Below.refl _ _⟩
  have e1 : decide ((2147483647 : Int) < (xs.length : Int)) = false := decide_eq_false t1
  have e2 : decide ((2147483647 : Int) < (ys.length : Int)) = false := decide_eq_false t2
  clear t1 t2
  by_cases t3 : (2000 : Int) < (xs.length : Int)
  · have e3 : decide ((2000 : Int) < (xs.length : Int)) = true := decide_eq_true t3
    go_enter Try.func4, Try.ntmps4
    go_wp2_with fail
    go_ret
    exact ⟨rfl, Below.refl _ _⟩
  have e3 : decide ((2000 : Int) < (xs.length : Int)) = false := decide_eq_false t3
  by_cases t4 : ys.length = 0
  · have e4 : ((ys.length : Int) == 0) = true := by simp [t4]
    clear t4
    go_enter Try.func4, Try.ntmps4
    go_wp2_with fail
    go_ret
    exact ⟨rfl, Below.refl _ _⟩
  have e4 : ((ys.length : Int) == 0) = false := by simp; intro h; exact t4 (by rw [h]; rfl)
  by_cases t5 : xs.length < ys.length
  · have e5 : decide (xs.length < ys.length) = true := decide_eq_true t5
    clear t4
    go_enter Try.func4, Try.ntmps4
    go_wp2_with fail
    go_ret
    exact ⟨rfl, Below.refl _ _⟩
  have e5 : decide (xs.length < ys.length) = false := decide_eq_false t5
  have hl : xs.length ≤ 2000 := by omega
  have hp : ys.length ≤ 2000 := by omega
  have hpos : 0 < ys.length := by omega
  have HPOS := Lib.hid hpos
  clear t3 t4 t5 hpos
  have H7 := Lib.hid (has7 w xs ys A B c d HA.out HB.out hc hl hp HX.out HY.out)
  cases hh : hasB xs ys with
  | false =>
    have H7' := H7.out
    rw [hh] at H7'
    have H8 := Lib.hid H7'
    clear H7 H7' hh
    go_enter Try.func4, Try.ntmps4
    go_wp2_with (go_at_call 7; refine H8.out.mono ?_; rintro e w' ⟨rfl, m, rfl⟩)
    go_ret
    exact ⟨rfl, below_drewN_ w m⟩
  | true =>
    have H7' := H7.out
    rw [hh] at H7'
    have H8 := Lib.hid H7'
    have HH := Lib.hid hh
    clear H7 H7' hh
    cases he : (decide (2 * (xs.length : Int) + 64 ≤ S) && decide (S ≤ 65536)) with
    | false =>
      have HE : Hid (∀ W, Calls Try.prog 8 #[.int .i64 (xs.length : Int), .int .i64 S] W fun e w' => e = .returned (.bool false) ∧ W = w') := fun W => by
        have := enough_calls xs.length S hl hS1 hS2 W
        rwa [he] at this
      clear he
      go_enter Try.func4, Try.ntmps4
      go_wp2_with (first | (go_at_call 7; refine H8.out.mono ?_; rintro e w' ⟨rfl, m, rfl⟩) | (go_at_call 8; refine (HE.out _).mono ?_; rintro e w' ⟨rfl, rfl⟩))
      go_ret
      exact ⟨rfl, below_drewN_ w m⟩
    | true =>
      have HE : Hid (∀ W, Calls Try.prog 8 #[.int .i64 (xs.length : Int), .int .i64 S] W fun e w' => e = .returned (.bool true) ∧ W = w') := fun W => by
        have := enough_calls xs.length S hl hS1 hS2 W
        rwa [he] at this
      rw [Bool.and_eq_true, decide_eq_true_iff, decide_eq_true_iff] at he
      obtain ⟨s, rfl⟩ := Int.eq_ofNat_of_zero_le (show 0 ≤ S by omega)
      have HS := Lib.hid he
      clear he
      go_enter Try.func4, Try.ntmps4
      go_wp2_with (first | (go_at_call 7; refine H8.out.mono ?_; rintro e w' ⟨rfl, m, rfl⟩) | (go_at_call 8; refine (HE.out _).mono ?_; rintro e w' ⟨rfl, rfl⟩))
      have hS := HS.out
      have hA1 : RdS (w.drewN m) A xs := HA.out
      have hB1 : RdS (w.drewN m) B ys := HB.out
      refine (around_part (w.drewN m) xs ys A B c d s hA1 hB1 hl hp HX.out HY.out (by omega) HPOS.out HH.out (by omega)).mono ?_
      clear hA1 hB1
      rintro e w2 ⟨A', c', rfl, hr, hle, hb⟩
      have hb' : Below w.heap.size w w2 := (below_drewN_ w m).trans hb
      have hlen : ys.length ≤ xs.length := by have := of_decide_eq_false e5; omega
      have hself : hasB ys ys = true := hasB_true (i := 0) ⟨by omega, by simp⟩
      have HC2 := Lib.hid (around_part w2 ys ys A' B c' d s hr (HB.out.below hb') hp hp HY.out HY.out (by omega) HPOS.out hself (by omega))
      have HR2 := Lib.hid hr
      have HBB := Lib.hid hb'
      have e6 : decide (0 < ys.length) = true := decide_eq_true HPOS.out
      clear hS hr hle hb hb' hlen hself
      go_wp2_with fail
      refine HC2.out.mono ?_
      rintro e w3 ⟨A2, c2, rfl, hr3, hle3, hb3⟩
      have hw3 : Below w.heap.size w w3 := HBB.out.trans (hb3.mono HBB.out.size)
      have H9 := Lib.hid (equal9 w3 ys ys A2 A' c2 c' hr3 (HR2.out.below hb3) HY.out HY.out)
      have HB3 := Lib.hid hw3
      clear hr3 hle3 hb3 hw3
      go_wp2_with (go_at_call 9; refine H9.out.mono ?_; rintro e w4 ⟨rfl, rfl⟩)
      go_ret
      exact ⟨ret_bool (by simp), HB3.out⟩

end Go.Proofs.Ytganmbbdmoldeaa.Mz
