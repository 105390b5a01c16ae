/-
  The code of minimizeBytes taken apart into its regions, and frames as functions from slots to values.
  Conditions: none.
-/
import Derived.Test.YtganmbbdmoldeaaProg
import Derived.WalkKit
import Derived.KernelRfl
namespace Go.Proofs.Ytganmbbdmoldeaa.Mz
open Go.RowKit

def regionsOf : Code → List Code
  | .region k ops d => [.region k ops d]
  | .seq a b => regionsOf a ++ regionsOf b
  | .loop c => regionsOf c
  | .block _ c => regionsOf c
  | .scope c => regionsOf c
  | .cond _ a b => regionsOf a ++ regionsOf b
  | _ => []
def findReg (n : Nat) (c : Code) : Code := ((regionsOf c).find? fun | .region k _ _ => k == n | _ => false).getD .skip

/-- Region n of minimizeBytes. -/
noncomputable def rg (n : Nat) : Code := findReg n (Try.f23.body.getD .skip)

/-! ### Frames -/
def upd (f : Nat → Value) (i : Nat) (v : Value) : Nat → Value := fun j => if j = i then v else f j
theorem upd_same (f : Nat → Value) (i : Nat) (v : Value) : upd f i v i = v := by simp [upd]
theorem upd_ne (f : Nat → Value) (i j : Nat) (v : Value) (h : ¬ j = i) : upd f i v j = f j := by simp [upd, h]

def frame (f : Nat → Value) : Array Value := Array.ofFn (n := 176) fun i => f i.val
theorem frame_get (f : Nat → Value) (i : Nat) (h : i < 176) : (frame f).getD i undef = f i := by
  simp [frame, Array.getD_eq_getD_getElem?, h]
theorem frame_at (f : Nat → Value) (i : Nat) (h : i < 176) : (frame f)[i]?.getD undef = f i := by
  simp [frame, h]
theorem frame_set (f : Nat → Value) (i : Nat) (v : Value) : (frame f).setIfInBounds i v = frame (upd f i v) := by
  apply Array.ext
  · simp [frame]
  · intro j h1 h2
    have hj : j < 176 := by simpa [frame] using h2
    have e : ∀ (X : Array Value) (Y : Array Value) (a : j < X.size) (b : j < Y.size), X.getD j undef = Y.getD j undef → X[j] = Y[j] := by
      intro X Y a b h
      simpa [Array.getD_eq_getD_getElem?, a, b] using h
    refine e _ _ h1 h2 ?_
    by_cases hij : j = i
    · subst hij
      rw [frame_get _ _ hj, upd_same]
      simp [Array.getD_eq_getD_getElem?, frame, hj]
    · rw [frame_get _ _ hj, upd_ne _ _ _ _ hij]
      have := frame_get f j hj
      simpa [Array.getD_eq_getD_getElem?, Array.getElem?_setIfInBounds_ne (Ne.symm hij)] using this
theorem frame_of (T : Array Value) (h : T.size = 176) : T = frame fun i => T.getD i undef := by
  apply Array.ext
  · simp [frame, h]
  · intro j h1 h2
    simp [frame, Array.getD_eq_getD_getElem?, h1]

attribute [irreducible] frame upd

/-! ### The whole body -/
open Code in
/-- Cut the tail: one try (loop 2, inside loop 1). -/
noncomputable def body2 : Code := seq (seq (rg 5) (cond (.tmp 31) skip (exit 2))) (block 3 (seq (seq (rg 6) (cond (.tmp 33) ret skip)) (seq (rg 7) (seq (seq (rg 8) (cond (.tmp 43) (exit 2) skip)) (rg 9)))))
open Code in
noncomputable def body1 : Code := seq (seq (rg 3) (cond (.tmp 25) skip (exit 0))) (seq (block 1 (block 2 (loop body2))) (rg 4))
open Code in
/-- Remove each single byte: one try (loop 3). -/
noncomputable def body3 : Code := seq (seq (rg 11) (cond (.tmp 49) skip (exit 4)))
    (seq (block 5 (seq (seq (rg 13) (cond (.tmp 53) ret skip)) (seq (rg 14) (seq (rg 15) (seq (rg 16) (seq (seq (rg 17) (cond (.tmp 77) (exit 5) skip)) (seq (rg 18) (seq (rg 19) (rg 20)))))))))
      (rg 12))
open Code in
/-- Remove each subset: one try (loop 5, inside loop 4). -/
noncomputable def body5 : Code := seq (seq (rg 26) (cond (.tmp 109) skip (exit 8)))
      (seq (block 9 (seq (seq (rg 28) (cond (.tmp 113) ret skip)) (seq (rg 29) (seq (rg 30) (seq (seq (rg 31) (cond (.tmp 132) (exit 9) skip)) (seq (rg 32) (seq (rg 33) (rg 34))))))))
        (rg 27))
open Code in
noncomputable def body4 : Code := seq (seq (rg 22) (cond (.tmp 96) skip (exit 6)))
    (seq (block 7 (seq (rg 24) (seq (rg 25) (block 8 (loop body5)))))
      (rg 23))
open Code in
/-- Replace a byte: one character (loop 7, inside loop 6). -/
noncomputable def body7 : Code := seq (rg 41) (seq (cond (.tmp 160) skip (exit 12))
      (seq (block 13 (seq (rg 42) (seq (rg 43) (seq (seq (rg 44) (cond (.tmp 169) (exit 12) skip)) (rg 45)))))
        (rg 46)))
open Code in
noncomputable def body6 : Code := seq (rg 37) (seq (cond (.tmp 151) skip (exit 10))
    (seq (block 11 (seq (rg 38) (seq (seq (rg 39) (cond (.tmp 156) ret skip)) (seq (rg 40) (block 12 (loop body7))))))
      (rg 47)))
open Code in
noncomputable def bodyC : Code :=
  seq (rg 0) (seq (rg 1) (seq (seq (rg 2) (block 0 (loop body1)))
  (seq (seq (rg 10) (block 4 (loop body3)))
  (seq (seq (rg 21) (block 6 (loop body4)))
  (seq (rg 35) (seq (rg 36) (block 10 (loop body6))))))))

theorem body_eq : Try.f23.body = some bodyC := by kernel_rfl

end Go.Proofs.Ytganmbbdmoldeaa.Mz
