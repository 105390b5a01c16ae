/-
  Each region of minimizeBytes: what it leaves in the frame and in memory.
  Conditions: none beside the ones that each theorem states. Printed by gen_regs.py (a program of this session).
-/
import Derived.Test.YtganmbbdmoldeaaMMem
import Derived.WalkKit
import Derived.WalkSpells
import Derived.WalkLawsBesides
import Derived.Laws.MakeOwn
namespace Go.Proofs.Ytganmbbdmoldeaa.Mz
open Go.RowKit
set_option linter.unusedSimpArgs false
set_option linter.unusedVariables false
attribute [local go_sem] frame_get frame_at frame_set upd_same upd_ne
variable {D : List Deferred}

set_option maxHeartbeats 400000 in
theorem rg2_ (f : Nat → Value) (w : World)  :
    (rg 2).wp Try.prog (onNormal fun a' w' => ∃ f', a' = ⟨frame f', D⟩ ∧ Eqv [7] f f' ∧ f' 7 = .int .i64 1024 ∧ w = w') ⟨frame f, D⟩ w := by
  conv => arg 2; whnf
  go_wp
  exact ⟨_, rfl, by repeat (first | exact Eqv.refl _ | apply Eqv.step), upd_same _ _ _, rfl⟩

set_option maxHeartbeats 400000 in
theorem rg3_ (f : Nat → Value) (w : World) (k : Nat) (h7 : f 7 = .int .i64 k) :
    (rg 3).wp Try.prog (onNormal fun a' w' => ∃ f', a' = ⟨frame f', D⟩ ∧ Eqv [25, 24] f f' ∧ f' 25 = .bool (decide (k ≠ 0)) ∧ w = w') ⟨frame f, D⟩ w := by
  conv => arg 2; whnf
  go_wp
  exact ⟨_, rfl, by repeat (first | exact Eqv.refl _ | apply Eqv.step), (upd_same _ _ _).trans (bool_ne k), rfl⟩

set_option maxHeartbeats 400000 in
theorem rg4_ (f : Nat → Value) (w : World) (k : Nat) (hk : k ≤ 1024) (h7 : f 7 = .int .i64 k) :
    (rg 4).wp Try.prog (onNormal fun a' w' => ∃ f', a' = ⟨frame f', D⟩ ∧ Eqv [7, 27, 26] f f' ∧ f' 7 = .int .i64 ((k / 2 : Nat) : Int) ∧ w = w') ⟨frame f, D⟩ w := by
  conv => arg 2; whnf
  go_wp
  exact ⟨_, rfl, by repeat (first | exact Eqv.refl _ | apply Eqv.step), (upd_same _ _ _).trans (by go_num), rfl⟩

set_option maxHeartbeats 400000 in
theorem rg5_ (f : Nat → Value) (w : World) (k n c : Nat) (A : Option Addr) (h7 : f 7 = .int .i64 k) (h0 : f 0 = .slice A n c) :
    (rg 5).wp Try.prog (onNormal fun a' w' => ∃ f', a' = ⟨frame f', D⟩ ∧ Eqv [31, 30, 29, 28] f f' ∧ f' 31 = .bool (decide (k < n)) ∧ w = w') ⟨frame f, D⟩ w := by
  conv => arg 2; whnf
  go_wp
  exact ⟨_, rfl, by repeat (first | exact Eqv.refl _ | apply Eqv.step), upd_same _ _ _, rfl⟩

set_option maxHeartbeats 400000 in
theorem rg7_ (f : Nat → Value) (w : World) (k n c : Nat) (A : Option Addr) (h7 : f 7 = .int .i64 k) (h0 : f 0 = .slice A n c) (hk : k ≤ n) (hn : n ≤ c) (hl : n ≤ 2000) :
    (rg 7).wp Try.prog (onNormal fun a' w' => ∃ f', a' = ⟨frame f', D⟩ ∧ Eqv [8, 39, 38, 37, 36, 35, 34] f f' ∧ f' 8 = .slice A (n - k) c ∧ w = w') ⟨frame f, D⟩ w := by
  have e1 : (0 : Int) ≤ (n : Int) - (k : Int) := by omega
  have e2 : (n : Int) - (k : Int) ≤ (c : Int) := by omega
  conv => arg 2; whnf
  go_wp
  exact ⟨_, rfl, by repeat (first | exact Eqv.refl _ | apply Eqv.step), upd_same _ _ _, rfl⟩

set_option maxHeartbeats 400000 in
theorem rg9_ (f : Nat → Value) (w : World) (A : Option Addr) (n c : Nat) (h8 : f 8 = .slice A n c) :
    (rg 9).wp Try.prog (onNormal fun a' w' => ∃ f', a' = ⟨frame f', D⟩ ∧ Eqv [0, 44] f f' ∧ f' 0 = .slice A n c ∧ w = w') ⟨frame f, D⟩ w := by
  conv => arg 2; whnf
  go_wp
  exact ⟨_, rfl, by repeat (first | exact Eqv.refl _ | apply Eqv.step), upd_same _ _ _, rfl⟩

set_option maxHeartbeats 400000 in
theorem rg10_ (f : Nat → Value) (w : World)  :
    (rg 10).wp Try.prog (onNormal fun a' w' => ∃ f', a' = ⟨frame f', D⟩ ∧ Eqv [9] f f' ∧ f' 9 = .int .i64 ((0 : Nat) : Int) ∧ w = w') ⟨frame f, D⟩ w := by
  conv => arg 2; whnf
  go_wp
  exact ⟨_, rfl, by repeat (first | exact Eqv.refl _ | apply Eqv.step), upd_same _ _ _, rfl⟩

set_option maxHeartbeats 400000 in
theorem rg11_ (f : Nat → Value) (w : World) (i n c : Nat) (A : Option Addr) (h9 : f 9 = .int .i64 i) (h0 : f 0 = .slice A n c) (hn : 1 ≤ n) (hl : n ≤ 2000) :
    (rg 11).wp Try.prog (onNormal fun a' w' => ∃ f', a' = ⟨frame f', D⟩ ∧ Eqv [49, 48, 47, 46, 45] f f' ∧ f' 49 = .bool (decide (i + 1 < n)) ∧ w = w') ⟨frame f, D⟩ w := by
  conv => arg 2; whnf
  go_wp
  exact ⟨_, rfl, by repeat (first | exact Eqv.refl _ | apply Eqv.step), (upd_same _ _ _).trans (bool_lt (by omega)), rfl⟩

set_option maxHeartbeats 400000 in
theorem rg12_ (f : Nat → Value) (w : World) (i : Int) (hi : -1 ≤ i) (hl : i ≤ 2000) (h9 : f 9 = .int .i64 i) :
    (rg 12).wp Try.prog (onNormal fun a' w' => ∃ f', a' = ⟨frame f', D⟩ ∧ Eqv [9, 51, 50] f f' ∧ f' 9 = .int .i64 (i + 1) ∧ w = w') ⟨frame f, D⟩ w := by
  conv => arg 2; whnf
  go_wp
  exact ⟨_, rfl, by repeat (first | exact Eqv.refl _ | apply Eqv.step), upd_same _ _ _, rfl⟩

set_option maxHeartbeats 400000 in
theorem rg14_ (f : Nat → Value) (w : World) (n c m : Nat) (A B : Option Addr) (L : Nat) (h0 : f 0 = .slice A n c) (h6 : f 6 = .slice B L m) (hn : 1 ≤ n) (hm : n ≤ m) (hl : n ≤ 2000) :
    (rg 14).wp Try.prog (onNormal fun a' w' => ∃ f', a' = ⟨frame f', D⟩ ∧ Eqv [10, 58, 57, 56, 55, 54] f f' ∧ f' 10 = .slice B (n - 1) m ∧ w = w') ⟨frame f, D⟩ w := by
  have e1 : (0 : Int) ≤ (n : Int) - 1 := by omega
  have e2 : (n : Int) - 1 ≤ (m : Int) := by omega
  conv => arg 2; whnf
  go_wp
  exact ⟨_, rfl, by repeat (first | exact Eqv.refl _ | apply Eqv.step), upd_same _ _ _, rfl⟩

set_option maxHeartbeats 400000 in
theorem rg19_ (f : Nat → Value) (w : World) (n c m d : Nat) (A B : Option Addr) (h0 : f 0 = .slice A n c) (h10 : f 10 = .slice B m d) (hm : m ≤ c) (hl : m ≤ 2000) :
    (rg 19).wp Try.prog (onNormal fun a' w' => ∃ f', a' = ⟨frame f', D⟩ ∧ Eqv [0, 89, 88, 87, 86] f f' ∧ f' 0 = .slice A m c ∧ w = w') ⟨frame f, D⟩ w := by
  have e1 : (0 : Int) ≤ (m : Int) := by omega
  have e2 : (m : Int) ≤ (c : Int) := by omega
  conv => arg 2; whnf
  go_wp
  exact ⟨_, rfl, by repeat (first | exact Eqv.refl _ | apply Eqv.step), upd_same _ _ _, rfl⟩

set_option maxHeartbeats 400000 in
theorem rg20_ (f : Nat → Value) (w : World) (i : Nat) (hl : i ≤ 2000) (h9 : f 9 = .int .i64 i) :
    (rg 20).wp Try.prog (onNormal fun a' w' => ∃ f', a' = ⟨frame f', D⟩ ∧ Eqv [9, 91, 90] f f' ∧ f' 9 = .int .i64 ((i : Int) - 1) ∧ w = w') ⟨frame f, D⟩ w := by
  conv => arg 2; whnf
  go_wp
  exact ⟨_, rfl, by repeat (first | exact Eqv.refl _ | apply Eqv.step), upd_same _ _ _, rfl⟩

set_option maxHeartbeats 400000 in
theorem rg21_ (f : Nat → Value) (w : World)  :
    (rg 21).wp Try.prog (onNormal fun a' w' => ∃ f', a' = ⟨frame f', D⟩ ∧ Eqv [11] f f' ∧ f' 11 = .int .i64 ((0 : Nat) : Int) ∧ w = w') ⟨frame f, D⟩ w := by
  conv => arg 2; whnf
  go_wp
  exact ⟨_, rfl, by repeat (first | exact Eqv.refl _ | apply Eqv.step), upd_same _ _ _, rfl⟩

set_option maxHeartbeats 400000 in
theorem rg22_ (f : Nat → Value) (w : World) (i n c : Nat) (A : Option Addr) (h11 : f 11 = .int .i64 i) (h0 : f 0 = .slice A n c) (hn : 1 ≤ n) (hl : n ≤ 2000) :
    (rg 22).wp Try.prog (onNormal fun a' w' => ∃ f', a' = ⟨frame f', D⟩ ∧ Eqv [96, 95, 94, 93, 92] f f' ∧ f' 96 = .bool (decide (i + 1 < n)) ∧ w = w') ⟨frame f, D⟩ w := by
  conv => arg 2; whnf
  go_wp
  exact ⟨_, rfl, by repeat (first | exact Eqv.refl _ | apply Eqv.step), (upd_same _ _ _).trans (bool_lt (by omega)), rfl⟩

set_option maxHeartbeats 400000 in
theorem rg23_ (f : Nat → Value) (w : World) (i : Nat) (hl : i ≤ 2000) (h11 : f 11 = .int .i64 i) :
    (rg 23).wp Try.prog (onNormal fun a' w' => ∃ f', a' = ⟨frame f', D⟩ ∧ Eqv [11, 98, 97] f f' ∧ f' 11 = .int .i64 ((i + 1 : Nat) : Int) ∧ w = w') ⟨frame f, D⟩ w := by
  conv => arg 2; whnf
  go_wp
  exact ⟨_, rfl, by repeat (first | exact Eqv.refl _ | apply Eqv.step), (upd_same _ _ _).trans (by go_num), rfl⟩

set_option maxHeartbeats 400000 in
theorem rg25_ (f : Nat → Value) (w : World) (n c : Nat) (A : Option Addr) (h0 : f 0 = .slice A n c) :
    (rg 25).wp Try.prog (onNormal fun a' w' => ∃ f', a' = ⟨frame f', D⟩ ∧ Eqv [12, 105, 104] f f' ∧ f' 12 = .int .i64 (n : Int) ∧ w = w') ⟨frame f, D⟩ w := by
  conv => arg 2; whnf
  go_wp
  exact ⟨_, rfl, by repeat (first | exact Eqv.refl _ | apply Eqv.step), upd_same _ _ _, rfl⟩

set_option maxHeartbeats 400000 in
theorem rg26_ (f : Nat → Value) (w : World) (i j : Nat) (h12 : f 12 = .int .i64 j) (h11 : f 11 = .int .i64 i) (hi : i ≤ 2000) (hj : j ≤ 2000) :
    (rg 26).wp Try.prog (onNormal fun a' w' => ∃ f', a' = ⟨frame f', D⟩ ∧ Eqv [109, 108, 107, 106] f f' ∧ f' 109 = .bool (decide (i + 1 < j)) ∧ w = w') ⟨frame f, D⟩ w := by
  conv => arg 2; whnf
  go_wp
  exact ⟨_, rfl, by repeat (first | exact Eqv.refl _ | apply Eqv.step), (upd_same _ _ _).trans (bool_lt2 (by omega)), rfl⟩

set_option maxHeartbeats 400000 in
theorem rg27_ (f : Nat → Value) (w : World) (j : Nat) (hl : j ≤ 2000) (hj : 1 ≤ j) (h12 : f 12 = .int .i64 j) :
    (rg 27).wp Try.prog (onNormal fun a' w' => ∃ f', a' = ⟨frame f', D⟩ ∧ Eqv [12, 111, 110] f f' ∧ f' 12 = .int .i64 ((j - 1 : Nat) : Int) ∧ w = w') ⟨frame f, D⟩ w := by
  conv => arg 2; whnf
  go_wp
  exact ⟨_, rfl, by repeat (first | exact Eqv.refl _ | apply Eqv.step), (upd_same _ _ _).trans (by go_num), rfl⟩

set_option maxHeartbeats 400000 in
theorem rg29_ (f : Nat → Value) (w : World) (i j n c m L : Nat) (A B : Option Addr) (h0 : f 0 = .slice A n c) (h6 : f 6 = .slice B L m) (h12 : f 12 = .int .i64 j) (h11 : f 11 = .int .i64 i) (hj : j ≤ n) (hi : i ≤ 2000) (hm : n - j + i ≤ m) (hl : n ≤ 2000) :
    (rg 29).wp Try.prog (onNormal fun a' w' => ∃ f', a' = ⟨frame f', D⟩ ∧ Eqv [13, 121, 120, 119, 118, 117, 116, 115, 114] f f' ∧ f' 13 = .slice B (n - j + i) m ∧ w = w') ⟨frame f, D⟩ w := by
  have e1 : (0 : Int) ≤ (n : Int) - (j : Int) + (i : Int) := by omega
  have e2 : (n : Int) - (j : Int) + (i : Int) ≤ (m : Int) := by omega
  conv => arg 2; whnf
  go_wp
  exact ⟨_, rfl, by repeat (first | exact Eqv.refl _ | apply Eqv.step), (upd_same _ _ _).trans (slice_len (by omega)), rfl⟩

set_option maxHeartbeats 400000 in
theorem rg33_ (f : Nat → Value) (w : World) (n c m d : Nat) (A B : Option Addr) (h0 : f 0 = .slice A n c) (h13 : f 13 = .slice B m d) (hm : m ≤ c) (hl : m ≤ 2000) :
    (rg 33).wp Try.prog (onNormal fun a' w' => ∃ f', a' = ⟨frame f', D⟩ ∧ Eqv [0, 143, 142, 141, 140] f f' ∧ f' 0 = .slice A m c ∧ w = w') ⟨frame f, D⟩ w := by
  have e1 : (0 : Int) ≤ (m : Int) := by omega
  have e2 : (m : Int) ≤ (c : Int) := by omega
  conv => arg 2; whnf
  go_wp
  exact ⟨_, rfl, by repeat (first | exact Eqv.refl _ | apply Eqv.step), upd_same _ _ _, rfl⟩

set_option maxHeartbeats 400000 in
theorem rg34_ (f : Nat → Value) (w : World) (n c : Nat) (A : Option Addr) (h0 : f 0 = .slice A n c) :
    (rg 34).wp Try.prog (onNormal fun a' w' => ∃ f', a' = ⟨frame f', D⟩ ∧ Eqv [12, 145, 144] f f' ∧ f' 12 = .int .i64 (n : Int) ∧ w = w') ⟨frame f, D⟩ w := by
  conv => arg 2; whnf
  go_wp
  exact ⟨_, rfl, by repeat (first | exact Eqv.refl _ | apply Eqv.step), upd_same _ _ _, rfl⟩

set_option maxHeartbeats 400000 in
theorem rg36_ (f : Nat → Value) (w : World) (n c : Nat) (A : Option Addr) (h0 : f 0 = .slice A n c) :
    (rg 36).wp Try.prog (onNormal fun a' w' => ∃ f', a' = ⟨frame f', D⟩ ∧ Eqv [150, 149, 148] f f' ∧ f' 150 = .int .i64 ((0 : Nat) : Int) ∧ f' 149 = .int .i64 (n : Int) ∧ f' 148 = .slice A n c ∧ w = w') ⟨frame f, D⟩ w := by
  conv => arg 2; whnf
  go_wp
  exact ⟨_, rfl, by repeat (first | exact Eqv.refl _ | apply Eqv.step), upd_same _ _ _, (upd_ne _ _ _ _ (by decide)).trans (upd_same _ _ _), (upd_ne _ _ _ _ (by decide)).trans ((upd_ne _ _ _ _ (by decide)).trans (upd_same _ _ _)), rfl⟩

set_option maxHeartbeats 400000 in
theorem rg37_ (f : Nat → Value) (w : World) (i n : Nat) (h150 : f 150 = .int .i64 i) (h149 : f 149 = .int .i64 n) :
    (rg 37).wp Try.prog (onNormal fun a' w' => ∃ f', a' = ⟨frame f', D⟩ ∧ Eqv [151] f f' ∧ f' 151 = .bool (decide (i < n)) ∧ w = w') ⟨frame f, D⟩ w := by
  conv => arg 2; whnf
  go_wp
  exact ⟨_, rfl, by repeat (first | exact Eqv.refl _ | apply Eqv.step), upd_same _ _ _, rfl⟩

set_option maxHeartbeats 400000 in
theorem rg38_ (f : Nat → Value) (w : World) (i n c g : Nat) (x : Int) (h150 : f 150 = .int .i64 i) (h148 : f 148 = .slice (some ⟨g, 0, none⟩) n c) (hi : i < n) (hc : w.cell? ⟨g, i, none⟩ = some (.int .u8 x)) :
    (rg 38).wp Try.prog (onNormal fun a' w' => ∃ f', a' = ⟨frame f', D⟩ ∧ Eqv [16, 15, 154, 153, 152] f f' ∧ f' 16 = .int .u8 x ∧ f' 15 = .int .i64 (i : Int) ∧ w = w') ⟨frame f, D⟩ w := by
  have e1 : (0 : Int) ≤ (i : Int) := by omega
  have e2 : (i : Int) < (n : Int) := by omega
  conv => arg 2; whnf
  go_wp
  exact ⟨_, rfl, by repeat (first | exact Eqv.refl _ | apply Eqv.step), upd_same _ _ _, (upd_ne _ _ _ _ (by decide)).trans (upd_same _ _ _), rfl⟩

set_option maxHeartbeats 400000 in
theorem rg40_ (f : Nat → Value) (w : World) (n c : Nat) (A : Option Addr) (h14 : f 14 = .slice A n c) :
    (rg 40).wp Try.prog (onNormal fun a' w' => ∃ f', a' = ⟨frame f', D⟩ ∧ Eqv [159, 158, 157] f f' ∧ f' 159 = .int .i64 ((0 : Nat) : Int) ∧ f' 158 = .int .i64 (n : Int) ∧ f' 157 = .slice A n c ∧ w = w') ⟨frame f, D⟩ w := by
  conv => arg 2; whnf
  go_wp
  exact ⟨_, rfl, by repeat (first | exact Eqv.refl _ | apply Eqv.step), upd_same _ _ _, (upd_ne _ _ _ _ (by decide)).trans (upd_same _ _ _), (upd_ne _ _ _ _ (by decide)).trans ((upd_ne _ _ _ _ (by decide)).trans (upd_same _ _ _)), rfl⟩

set_option maxHeartbeats 400000 in
theorem rg41_ (f : Nat → Value) (w : World) (i n : Nat) (h159 : f 159 = .int .i64 i) (h158 : f 158 = .int .i64 n) :
    (rg 41).wp Try.prog (onNormal fun a' w' => ∃ f', a' = ⟨frame f', D⟩ ∧ Eqv [160] f f' ∧ f' 160 = .bool (decide (i < n)) ∧ w = w') ⟨frame f, D⟩ w := by
  conv => arg 2; whnf
  go_wp
  exact ⟨_, rfl, by repeat (first | exact Eqv.refl _ | apply Eqv.step), upd_same _ _ _, rfl⟩

set_option maxHeartbeats 400000 in
theorem rg42_ (f : Nat → Value) (w : World) (i n c g : Nat) (x : Int) (h159 : f 159 = .int .i64 i) (h157 : f 157 = .slice (some ⟨g, 0, none⟩) n c) (hi : i < n) (hc : w.cell? ⟨g, i, none⟩ = some (.int .u8 x)) :
    (rg 42).wp Try.prog (onNormal fun a' w' => ∃ f', a' = ⟨frame f', D⟩ ∧ Eqv [18, 162, 161] f f' ∧ f' 18 = .int .u8 x ∧ w = w') ⟨frame f, D⟩ w := by
  have e1 : (0 : Int) ≤ (i : Int) := by omega
  have e2 : (i : Int) < (n : Int) := by omega
  conv => arg 2; whnf
  go_wp
  exact ⟨_, rfl, by repeat (first | exact Eqv.refl _ | apply Eqv.step), upd_same _ _ _, rfl⟩

set_option maxHeartbeats 400000 in
theorem rg46_ (f : Nat → Value) (w : World) (i : Nat) (hl : i ≤ 2000) (h159 : f 159 = .int .i64 i) :
    (rg 46).wp Try.prog (onNormal fun a' w' => ∃ f', a' = ⟨frame f', D⟩ ∧ Eqv [159, 174] f f' ∧ f' 159 = .int .i64 ((i + 1 : Nat) : Int) ∧ w = w') ⟨frame f, D⟩ w := by
  conv => arg 2; whnf
  go_wp
  exact ⟨_, rfl, by repeat (first | exact Eqv.refl _ | apply Eqv.step), (upd_same _ _ _).trans (by go_num), rfl⟩

set_option maxHeartbeats 400000 in
theorem rg47_ (f : Nat → Value) (w : World) (i : Nat) (hl : i ≤ 2000) (h150 : f 150 = .int .i64 i) :
    (rg 47).wp Try.prog (onNormal fun a' w' => ∃ f', a' = ⟨frame f', D⟩ ∧ Eqv [150, 175] f f' ∧ f' 150 = .int .i64 ((i + 1 : Nat) : Int) ∧ w = w') ⟨frame f, D⟩ w := by
  conv => arg 2; whnf
  go_wp
  exact ⟨_, rfl, by repeat (first | exact Eqv.refl _ | apply Eqv.step), (upd_same _ _ _).trans (by go_num), rfl⟩

set_option maxHeartbeats 400000 in
theorem rg43_ (f : Nat → Value) (w : World) (i n c g : Nat) (x y : Int) (h0 : f 0 = .slice (some ⟨g, 0, none⟩) n c) (h15 : f 15 = .int .i64 i) (h18 : f 18 = .int .u8 x) (hi : i < n) (hc : w.cell? ⟨g, i, none⟩ = some (.int .u8 y)) (hf : w.frozen? ⟨g, i, none⟩ = false) :
    (rg 43).wp Try.prog (onNormal fun a' w' => ∃ f', a' = ⟨frame f', D⟩ ∧ Eqv [166, 165, 164, 163] f f' ∧ w.setCell ⟨g, i, none⟩ (.int .u8 x) = w') ⟨frame f, D⟩ w := by
  have e1 : (0 : Int) ≤ (i : Int) := by omega
  have e2 : (i : Int) < (n : Int) := by omega
  conv => arg 2; whnf
  go_wp
  exact ⟨_, rfl, by repeat (first | exact Eqv.refl _ | apply Eqv.step), rfl⟩

set_option maxHeartbeats 400000 in
theorem rg45_ (f : Nat → Value) (w : World) (i n c g : Nat) (x y : Int) (h0 : f 0 = .slice (some ⟨g, 0, none⟩) n c) (h15 : f 15 = .int .i64 i) (h16 : f 16 = .int .u8 x) (hi : i < n) (hc : w.cell? ⟨g, i, none⟩ = some (.int .u8 y)) (hf : w.frozen? ⟨g, i, none⟩ = false) :
    (rg 45).wp Try.prog (onNormal fun a' w' => ∃ f', a' = ⟨frame f', D⟩ ∧ Eqv [173, 172, 171, 170] f f' ∧ w.setCell ⟨g, i, none⟩ (.int .u8 x) = w') ⟨frame f, D⟩ w := by
  have e1 : (0 : Int) ≤ (i : Int) := by omega
  have e2 : (i : Int) < (n : Int) := by omega
  conv => arg 2; whnf
  go_wp
  exact ⟨_, rfl, by repeat (first | exact Eqv.refl _ | apply Eqv.step), rfl⟩

end Go.Proofs.Ytganmbbdmoldeaa.Mz
