/-
  The laws FnTight and FnWanted walked over slices that read as lists: each returns true and turns nothing that was there.
  Conditions: none beside that the slices can be read. Printed by gen_lawr.py (a program of this session).
-/
import Derived.Test.YtganmbbdmoldeaaMTight
import Derived.Test.YtganmbbdmoldeaaMLawP
namespace Go.Proofs.Ytganmbbdmoldeaa.Mz
open Go.RowKit
set_option linter.unusedSimpArgs false
set_option linter.unusedVariables false

set_option maxRecDepth 100000 in
set_option maxHeartbeats 1000000 in
theorem tight_walk (w : World) (xs : List Int) (rows : List (List Int)) (A B : Option Addr) (c d : Nat) (S : Int) (hA : RdS w A xs) (hB : RdR w B rows) (hx : Byt xs) (hyr : ∀ j, Byt (rows.getD j [])) (hc : xs.length ≤ c)
    (hmx : xs.length ≤ 9223372036854775807) (hmy : rows.length ≤ 9223372036854775807) (hS1 : -9223372036854775808 ≤ S) (hS2 : S ≤ 9223372036854775807) :
    Calls Try.prog 5 #[.slice A xs.length c, .slice B rows.length d, .int .i64 S] w fun e w' => e = .returned (.bool true) ∧ Below w.heap.size w w' := by
  have HA := Lib.hid hA
  have HB := Lib.hid hB
  have HX := Lib.hid hx
  have HYR := Lib.hid hyr
  have F11 := Lib.hid (fits11 w rows B d hB hmy)
  have F12 := Lib.hid (rows12 w rows B d hB hmy)
  clear hA hB hx hyr
  by_cases t1 : (2147483647 : Int) < (xs.length : Int)
  · have e1 : decide ((2147483647 : Int) < (xs.length : Int)) = true := decide_eq_true t1
    go_enter Try.func5, Try.ntmps5
    go_wp2_with fail
    go_ret
    exact ⟨rfl, Below.refl _ _⟩
  have e1 : decide ((2147483647 : Int) < (xs.length : Int)) = false := decide_eq_false t1
  clear t1
  cases t2 : fitsB rows with
  | false =>
    rw [t2] at F11
    clear t2
    go_enter Try.func5, Try.ntmps5
    go_wp2_with (go_at_call 11; refine F11.out.mono ?_; rintro e w' ⟨rfl, rfl⟩)
    go_ret
    exact ⟨rfl, Below.refl _ _⟩
  | true =>
  rw [t2] at F11
  clear t2
  by_cases t3 : (2000 : Int) < (xs.length : Int)
  · have e3 : decide ((2000 : Int) < (xs.length : Int)) = true := decide_eq_true t3
    go_enter Try.func5, Try.ntmps5
    go_wp2_with (go_at_call 11; refine F11.out.mono ?_; rintro e w' ⟨rfl, rfl⟩)
    go_ret
    exact ⟨rfl, Below.refl _ _⟩
  have e3 : decide ((2000 : Int) < (xs.length : Int)) = false := decide_eq_false t3
  have hl : xs.length ≤ 2000 := by omega
  clear t3
  cases t4 : rowsB rows with
  | false =>
    rw [t4] at F12
    clear t4
    go_enter Try.func5, Try.ntmps5
    go_wp2_with (first | (go_at_call 11; refine F11.out.mono ?_; rintro e w' ⟨rfl, rfl⟩) | (go_at_call 12; refine F12.out.mono ?_; rintro e w' ⟨rfl, rfl⟩))
    go_ret
    exact ⟨rfl, Below.refl _ _⟩
  | true =>
  rw [t4] at F12
  obtain ⟨hok, hn⟩ := of_cdecide t4
  have hrish := rowish_want hok
  have hlr : ∀ j, j < rows.length → (rows.getD j []).length ≤ 2000 := fun j hj => (hok j hj).2.1
  have HRI := Lib.hid hrish
  have HLR := Lib.hid hlr
  clear t4 hok hrish hlr
  have F13 := Lib.hid (wanted13 w xs rows A B c d HA.out HB.out hc hl HLR.out hn)
  cases t5 : wantB rows xs with
  | false =>
    rw [t5] at F13
    clear t5
    go_enter Try.func5, Try.ntmps5
    go_wp2_with (first | (go_at_call 11; refine F11.out.mono ?_; rintro e w' ⟨rfl, rfl⟩) | (go_at_call 12; refine F12.out.mono ?_; rintro e w' ⟨rfl, rfl⟩) | (go_at_call 13; refine F13.out.mono ?_; rintro e w' ⟨rfl, rfl⟩))
    go_ret
    exact ⟨rfl, Below.refl _ _⟩
  | true =>
  rw [t5] at F13
  have HW := Lib.hid t5
  clear t5
  cases he : (decide (2 * (xs.length : Int) + 64 ≤ S) && decide (S ≤ 65536)) with
  | false =>
    have F8 : Hid (∀ W, Calls Try.prog 8 #[.int .i64 (xs.length : Int), .int .i64 S] W fun e w' => e = .returned (.bool false) ∧ W = w') := fun W => by
      have := enough_calls xs.length S hl hS1 hS2 W
      rwa [he] at this
    clear he
    go_enter Try.func5, Try.ntmps5
    go_wp2_with (first | (go_at_call 11; refine F11.out.mono ?_; rintro e w' ⟨rfl, rfl⟩) | (go_at_call 12; refine F12.out.mono ?_; rintro e w' ⟨rfl, rfl⟩) | (go_at_call 13; refine F13.out.mono ?_; rintro e w' ⟨rfl, rfl⟩) | (go_at_call 8; refine (F8.out _).mono ?_; rintro e w' ⟨rfl, rfl⟩))
    go_ret
    exact ⟨rfl, Below.refl _ _⟩
  | true =>
  have F8 : Hid (∀ W, Calls Try.prog 8 #[.int .i64 (xs.length : Int), .int .i64 S] W fun e w' => e = .returned (.bool true) ∧ W = w') := fun W => by
    have := enough_calls xs.length S hl hS1 hS2 W
    rwa [he] at this
  rw [Bool.and_eq_true, decide_eq_true_iff, decide_eq_true_iff] at he
  obtain ⟨s, rfl⟩ := Int.eq_ofNat_of_zero_le (show 0 ≤ S by omega)
  have HS := Lib.hid he
  have F14 := Lib.hid (minimize_calls w xs rows A B c d s HA.out HB.out hl HX.out HLR.out hn (by omega) HRI.out.none HW.out)
  clear he
  go_enter Try.func5, Try.ntmps5
  go_wp2_with (first | (go_at_call 11; refine F11.out.mono ?_; rintro e w' ⟨rfl, rfl⟩) | (go_at_call 12; refine F12.out.mono ?_; rintro e w' ⟨rfl, rfl⟩) | (go_at_call 13; refine F13.out.mono ?_; rintro e w' ⟨rfl, rfl⟩) | (go_at_call 8; refine (F8.out _).mono ?_; rintro e w' ⟨rfl, rfl⟩))
  refine F14.out.mono ?_
  rintro e w2 ⟨R, A', c', rfl, hR, hrd, hle, hb2⟩
  have hS := HS.out
  obtain ⟨hK, hOne⟩ := hR.tgt HRI.out HW.out (by omega)
  obtain ⟨_, hRl⟩ := hR.wtd HW.out
  have hone := one_of_tight hK hOne
  obtain ⟨j, hj, hRj⟩ := of_cdecide hone
  have hyR : Byt R := by rw [← hRj]; exact HYR.out j
  have F15 := Lib.hid (tight15 w2 R rows A' B c' d hrd (HB.out.below hb2) hle (by omega) HLR.out hn hK hOne)
  have F16 : Hid (∀ w3, Below w2.heap.size w2 w3 → Calls Try.prog 16 #[.slice A' R.length c', .slice B rows.length d] w3 fun e w' => e = .returned (.bool true) ∧ w3 = w') := fun w3 hb3 => by
    have := one16 w3 R rows A' B c' d (hrd.below hb3) ((HB.out.below hb2).below hb3) hyR HYR.out hn
    rwa [hone] at this
  have HB2 := Lib.hid hb2
  clear hR hrd hle hb2 hS hK hOne hRl hone hRj hyR
  go_wp2_with (first | (go_at_call 15; refine F15.out.mono ?_; rintro e w3 ⟨rfl, hb3⟩; have HB3 := Lib.hid hb3; clear hb3) | (go_at_call 16; refine (F16.out _ HB3.out).mono ?_; rintro e w4 ⟨rfl, rfl⟩))
  go_ret
  exact ⟨rfl, HB2.out.trans (HB3.out.mono HB2.out.size)⟩

set_option maxRecDepth 100000 in
set_option maxHeartbeats 1000000 in
theorem wanted_walk (w : World) (xs : List Int) (rows : List (List Int)) (A B : Option Addr) (c d : Nat) (S : Int) (hA : RdS w A xs) (hB : RdR w B rows) (hx : Byt xs) (hyr : ∀ j, Byt (rows.getD j [])) (hc : xs.length ≤ c)
    (hmx : xs.length ≤ 9223372036854775807) (hmy : rows.length ≤ 9223372036854775807) (hS1 : -9223372036854775808 ≤ S) (hS2 : S ≤ 9223372036854775807) :
    Calls Try.prog 6 #[.slice A xs.length c, .slice B rows.length d, .int .i64 S] w fun e w' => e = .returned (.bool true) ∧ Below w.heap.size w w' := by
  have HA := Lib.hid hA
  have HB := Lib.hid hB
  have HX := Lib.hid hx
  have HYR := Lib.hid hyr
  have F11 := Lib.hid (fits11 w rows B d hB hmy)
  have F12 := Lib.hid (rows12 w rows B d hB hmy)
  clear hA hB hx hyr
  by_cases t1 : (2147483647 : Int) < (xs.length : Int)
  · have e1 : decide ((2147483647 : Int) < (xs.length : Int)) = true := decide_eq_true t1
    go_enter Try.func6, Try.ntmps6
    go_wp2_with fail
    go_ret
    exact ⟨rfl, Below.refl _ _⟩
  have e1 : decide ((2147483647 : Int) < (xs.length : Int)) = false := decide_eq_false t1
  clear t1
  cases t2 : fitsB rows with
  | false =>
    rw [t2] at F11
    clear t2
    go_enter Try.func6, Try.ntmps6
    go_wp2_with (go_at_call 11; refine F11.out.mono ?_; rintro e w' ⟨rfl, rfl⟩)
    go_ret
    exact ⟨rfl, Below.refl _ _⟩
  | true =>
  rw [t2] at F11
  clear t2
  by_cases t3 : (2000 : Int) < (xs.length : Int)
  · have e3 : decide ((2000 : Int) < (xs.length : Int)) = true := decide_eq_true t3
    go_enter Try.func6, Try.ntmps6
    go_wp2_with (go_at_call 11; refine F11.out.mono ?_; rintro e w' ⟨rfl, rfl⟩)
    go_ret
    exact ⟨rfl, Below.refl _ _⟩
  have e3 : decide ((2000 : Int) < (xs.length : Int)) = false := decide_eq_false t3
  have hl : xs.length ≤ 2000 := by omega
  clear t3
  cases t4 : rowsB rows with
  | false =>
    rw [t4] at F12
    clear t4
    go_enter Try.func6, Try.ntmps6
    go_wp2_with (first | (go_at_call 11; refine F11.out.mono ?_; rintro e w' ⟨rfl, rfl⟩) | (go_at_call 12; refine F12.out.mono ?_; rintro e w' ⟨rfl, rfl⟩))
    go_ret
    exact ⟨rfl, Below.refl _ _⟩
  | true =>
  rw [t4] at F12
  obtain ⟨hok, hn⟩ := of_cdecide t4
  have hrish := rowish_want hok
  have hlr : ∀ j, j < rows.length → (rows.getD j []).length ≤ 2000 := fun j hj => (hok j hj).2.1
  have HRI := Lib.hid hrish
  have HLR := Lib.hid hlr
  clear t4 hok hrish hlr
  have F13 := Lib.hid (wanted13 w xs rows A B c d HA.out HB.out hc hl HLR.out hn)
  cases t5 : wantB rows xs with
  | false =>
    rw [t5] at F13
    clear t5
    go_enter Try.func6, Try.ntmps6
    go_wp2_with (first | (go_at_call 11; refine F11.out.mono ?_; rintro e w' ⟨rfl, rfl⟩) | (go_at_call 12; refine F12.out.mono ?_; rintro e w' ⟨rfl, rfl⟩) | (go_at_call 13; refine F13.out.mono ?_; rintro e w' ⟨rfl, rfl⟩))
    go_ret
    exact ⟨rfl, Below.refl _ _⟩
  | true =>
  rw [t5] at F13
  have HW := Lib.hid t5
  clear t5
  by_cases t6 : S < 0
  · have e6 : decide (S < 0) = true := decide_eq_true t6
    go_enter Try.func6, Try.ntmps6
    go_wp2_with (first | (go_at_call 11; refine F11.out.mono ?_; rintro e w' ⟨rfl, rfl⟩) | (go_at_call 12; refine F12.out.mono ?_; rintro e w' ⟨rfl, rfl⟩) | (go_at_call 13; refine F13.out.mono ?_; rintro e w' ⟨rfl, rfl⟩))
    go_ret
    exact ⟨rfl, Below.refl _ _⟩
  by_cases t7 : 65536 < S
  · have e6 : decide (S < 0) = false := decide_eq_false t6
    have e7 : decide (65536 < S) = true := decide_eq_true t7
    go_enter Try.func6, Try.ntmps6
    go_wp2_with (first | (go_at_call 11; refine F11.out.mono ?_; rintro e w' ⟨rfl, rfl⟩) | (go_at_call 12; refine F12.out.mono ?_; rintro e w' ⟨rfl, rfl⟩) | (go_at_call 13; refine F13.out.mono ?_; rintro e w' ⟨rfl, rfl⟩))
    go_ret
    exact ⟨rfl, Below.refl _ _⟩
  obtain ⟨s, rfl⟩ := Int.eq_ofNat_of_zero_le (show 0 ≤ S by omega)
  have e6 : decide ((s : Int) < 0) = false := decide_eq_false t6
  have e7 : decide ((65536 : Int) < (s : Int)) = false := decide_eq_false t7
  have F14 := Lib.hid (minimize_calls w xs rows A B c d s HA.out HB.out hl HX.out HLR.out hn (by omega) HRI.out.none HW.out)
  clear t6 t7
  go_enter Try.func6, Try.ntmps6
  go_wp2_with (first | (go_at_call 11; refine F11.out.mono ?_; rintro e w' ⟨rfl, rfl⟩) | (go_at_call 12; refine F12.out.mono ?_; rintro e w' ⟨rfl, rfl⟩) | (go_at_call 13; refine F13.out.mono ?_; rintro e w' ⟨rfl, rfl⟩))
  refine F14.out.mono ?_
  rintro e w2 ⟨R, A', c', rfl, hR, hrd, hle, hb2⟩
  obtain ⟨hK, hRl⟩ := hR.wtd HW.out
  have hcall := wanted13 w2 R rows A' B c' d hrd (HB.out.below hb2) hle (by omega) HLR.out hn
  rw [hK] at hcall
  have G13 := Lib.hid hcall
  have HB2 := Lib.hid hb2
  have e8 : decide (R.length ≤ xs.length) = true := decide_eq_true hRl
  clear hR hrd hle hb2 hK hcall F13 F11 F12 F14
  go_wp2_with (go_at_call 13; refine G13.out.mono ?_; rintro e w4 ⟨rfl, rfl⟩)
  go_ret
  exact ⟨rfl, HB2.out⟩

end Go.Proofs.Ytganmbbdmoldeaa.Mz
