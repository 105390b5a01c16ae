/-
  The regions of minimizeBytes that call or copy: what it leaves in the frame and in memory.
  Conditions: none beside the ones that each theorem states. Printed by gen_regs.py (a program of this session).
-/
import Derived.Test.YtganmbbdmoldeaaMMem
import Derived.WalkKit
import Derived.WalkSpells
import Derived.WalkLawsBesides
import Derived.Laws.MakeOwn
namespace Go.Proofs.Ytganmbbdmoldeaa.Mz
open Go.RowKit
set_option linter.unusedSimpArgs false
set_option linter.unusedVariables false
attribute [local go_sem] frame_get frame_at frame_set upd_same upd_ne
variable {D : List Deferred}

set_option maxHeartbeats 400000 in
theorem rg6_ {p : Ads} (hS : StopC p) (f : Nat → Value) (w : World) (n : Nat) (h2 : f 2 = stopV p) (hn : Blk w p.bn 3 [.int .i64 n]) (hs : Blk w p.bs 3 [.int .i64 p.S]) (hl : n ≤ 100000) :
    (rg 6).wp Try.prog (onNormal fun a' w' => ∃ f', a' = ⟨frame f', D⟩ ∧ Eqv [33, 32] f f' ∧ f' 33 = .bool (decide (p.S ≤ n)) ∧ w = w') ⟨frame f, D⟩ w := by
  have H := hS w n hn hs hl
  unfold stopV at h2
  clear hS hn hs
  conv => arg 2; whnf
  go_wp
  refine H.mono ?_
  rintro e w' ⟨rfl, rfl⟩
  dsimp only
  go_wp
  exact ⟨_, rfl, by repeat (first | exact Eqv.refl _ | apply Eqv.step), upd_same _ _ _, rfl⟩

set_option maxHeartbeats 400000 in
theorem rg13_ {p : Ads} (hS : StopC p) (f : Nat → Value) (w : World) (n : Nat) (h2 : f 2 = stopV p) (hn : Blk w p.bn 3 [.int .i64 n]) (hs : Blk w p.bs 3 [.int .i64 p.S]) (hl : n ≤ 100000) :
    (rg 13).wp Try.prog (onNormal fun a' w' => ∃ f', a' = ⟨frame f', D⟩ ∧ Eqv [53, 52] f f' ∧ f' 53 = .bool (decide (p.S ≤ n)) ∧ w = w') ⟨frame f, D⟩ w := by
  have H := hS w n hn hs hl
  unfold stopV at h2
  clear hS hn hs
  conv => arg 2; whnf
  go_wp
  refine H.mono ?_
  rintro e w' ⟨rfl, rfl⟩
  dsimp only
  go_wp
  exact ⟨_, rfl, by repeat (first | exact Eqv.refl _ | apply Eqv.step), upd_same _ _ _, rfl⟩

set_option maxHeartbeats 400000 in
theorem rg28_ {p : Ads} (hS : StopC p) (f : Nat → Value) (w : World) (n : Nat) (h2 : f 2 = stopV p) (hn : Blk w p.bn 3 [.int .i64 n]) (hs : Blk w p.bs 3 [.int .i64 p.S]) (hl : n ≤ 100000) :
    (rg 28).wp Try.prog (onNormal fun a' w' => ∃ f', a' = ⟨frame f', D⟩ ∧ Eqv [113, 112] f f' ∧ f' 113 = .bool (decide (p.S ≤ n)) ∧ w = w') ⟨frame f, D⟩ w := by
  have H := hS w n hn hs hl
  unfold stopV at h2
  clear hS hn hs
  conv => arg 2; whnf
  go_wp
  refine H.mono ?_
  rintro e w' ⟨rfl, rfl⟩
  dsimp only
  go_wp
  exact ⟨_, rfl, by repeat (first | exact Eqv.refl _ | apply Eqv.step), upd_same _ _ _, rfl⟩

set_option maxHeartbeats 400000 in
theorem rg39_ {p : Ads} (hS : StopC p) (f : Nat → Value) (w : World) (n : Nat) (h2 : f 2 = stopV p) (hn : Blk w p.bn 3 [.int .i64 n]) (hs : Blk w p.bs 3 [.int .i64 p.S]) (hl : n ≤ 100000) :
    (rg 39).wp Try.prog (onNormal fun a' w' => ∃ f', a' = ⟨frame f', D⟩ ∧ Eqv [156, 155] f f' ∧ f' 156 = .bool (decide (p.S ≤ n)) ∧ w = w') ⟨frame f, D⟩ w := by
  have H := hS w n hn hs hl
  unfold stopV at h2
  clear hS hn hs
  conv => arg 2; whnf
  go_wp
  refine H.mono ?_
  rintro e w' ⟨rfl, rfl⟩
  dsimp only
  go_wp
  exact ⟨_, rfl, by repeat (first | exact Eqv.refl _ | apply Eqv.step), upd_same _ _ _, rfl⟩

set_option maxHeartbeats 400000 in
theorem rg8_ {p : Ads} {w0 : World} {K : List Int → Bool} (hT : TryC p w0 K) (f : Nat → Value) (w : World) (A : Option Addr) (xs best v : List Int) (tc : List Value) (m c n : Nat) (h1 : f 1 = tryV p) (h8 : f 8 = .slice A m c)
    (hM : Mem p w0 w n best v tc) (hr : RdS w A xs) (hm : xs.length = m) (hx : m ≤ c) (hl : m ≤ 2000) (hb : Byt xs) (hn : n ≤ 100000) :
    (rg 8).wp Try.prog (onNormal fun a' w' => ∃ f', a' = ⟨frame f', D⟩ ∧ Eqv [43, 42, 41, 40] f f' ∧ f' 43 = .bool (!K xs) ∧ Mem p w0 w' (n + 1) (if K xs = true then xs else best) v tc ∧ Kept p w w') ⟨frame f, D⟩ w := by
  subst hm
  have H := hT w n best v tc xs A c hM hr hx hl hb hn
  unfold tryV at h1
  clear hT hM
  conv => arg 2; whnf
  go_wp
  refine H.mono ?_
  rintro e w' ⟨rfl, hM', hk⟩
  dsimp only
  go_wp
  exact ⟨_, rfl, by repeat (first | exact Eqv.refl _ | apply Eqv.step), upd_same _ _ _, hM', hk⟩

set_option maxHeartbeats 400000 in
theorem rg17_ {p : Ads} {w0 : World} {K : List Int → Bool} (hT : TryC p w0 K) (f : Nat → Value) (w : World) (A : Option Addr) (xs best v : List Int) (tc : List Value) (m c n : Nat) (h1 : f 1 = tryV p) (h10 : f 10 = .slice A m c)
    (hM : Mem p w0 w n best v tc) (hr : RdS w A xs) (hm : xs.length = m) (hx : m ≤ c) (hl : m ≤ 2000) (hb : Byt xs) (hn : n ≤ 100000) :
    (rg 17).wp Try.prog (onNormal fun a' w' => ∃ f', a' = ⟨frame f', D⟩ ∧ Eqv [77, 76, 75, 74] f f' ∧ f' 77 = .bool (!K xs) ∧ Mem p w0 w' (n + 1) (if K xs = true then xs else best) v tc ∧ Kept p w w') ⟨frame f, D⟩ w := by
  subst hm
  have H := hT w n best v tc xs A c hM hr hx hl hb hn
  unfold tryV at h1
  clear hT hM
  conv => arg 2; whnf
  go_wp
  refine H.mono ?_
  rintro e w' ⟨rfl, hM', hk⟩
  dsimp only
  go_wp
  exact ⟨_, rfl, by repeat (first | exact Eqv.refl _ | apply Eqv.step), upd_same _ _ _, hM', hk⟩

set_option maxHeartbeats 400000 in
theorem rg31_ {p : Ads} {w0 : World} {K : List Int → Bool} (hT : TryC p w0 K) (f : Nat → Value) (w : World) (A : Option Addr) (xs best v : List Int) (tc : List Value) (m c n : Nat) (h1 : f 1 = tryV p) (h13 : f 13 = .slice A m c)
    (hM : Mem p w0 w n best v tc) (hr : RdS w A xs) (hm : xs.length = m) (hx : m ≤ c) (hl : m ≤ 2000) (hb : Byt xs) (hn : n ≤ 100000) :
    (rg 31).wp Try.prog (onNormal fun a' w' => ∃ f', a' = ⟨frame f', D⟩ ∧ Eqv [132, 131, 130, 129] f f' ∧ f' 132 = .bool (!K xs) ∧ Mem p w0 w' (n + 1) (if K xs = true then xs else best) v tc ∧ Kept p w w') ⟨frame f, D⟩ w := by
  subst hm
  have H := hT w n best v tc xs A c hM hr hx hl hb hn
  unfold tryV at h1
  clear hT hM
  conv => arg 2; whnf
  go_wp
  refine H.mono ?_
  rintro e w' ⟨rfl, hM', hk⟩
  dsimp only
  go_wp
  exact ⟨_, rfl, by repeat (first | exact Eqv.refl _ | apply Eqv.step), upd_same _ _ _, hM', hk⟩

set_option maxHeartbeats 400000 in
theorem rg44_ {p : Ads} {w0 : World} {K : List Int → Bool} (hT : TryC p w0 K) (f : Nat → Value) (w : World) (A : Option Addr) (xs best v : List Int) (tc : List Value) (m c n : Nat) (h1 : f 1 = tryV p) (h0 : f 0 = .slice A m c)
    (hM : Mem p w0 w n best v tc) (hr : RdS w A xs) (hm : xs.length = m) (hx : m ≤ c) (hl : m ≤ 2000) (hb : Byt xs) (hn : n ≤ 100000) :
    (rg 44).wp Try.prog (onNormal fun a' w' => ∃ f', a' = ⟨frame f', D⟩ ∧ Eqv [169, 168, 167] f f' ∧ f' 169 = .bool (K xs) ∧ Mem p w0 w' (n + 1) (if K xs = true then xs else best) v tc ∧ Kept p w w') ⟨frame f, D⟩ w := by
  subst hm
  have H := hT w n best v tc xs A c hM hr hx hl hb hn
  unfold tryV at h1
  clear hT hM
  conv => arg 2; whnf
  go_wp
  refine H.mono ?_
  rintro e w' ⟨rfl, hM', hk⟩
  dsimp only
  go_wp
  exact ⟨_, rfl, by repeat (first | exact Eqv.refl _ | apply Eqv.step), upd_same _ _ _, hM', hk⟩

set_option maxHeartbeats 400000 in
theorem rg15_ (f : Nat → Value) (w : World) (g h i n m c1 c2 : Nat) (cur src : List Value)
    (h10 : f 10 = .slice (some ⟨g, 0, none⟩) m c1) (h0 : f 0 = .slice (some ⟨h, 0, none⟩) n c2) (h9 : f 9 = .int .i64 i)
    (him : i ≤ m) (hin : i ≤ n) (hm : m ≤ c1) (hn : n ≤ c2) (hc2 : i ≤ 2000) (hg : Blk w g 5 cur) (hh : Blk w h 5 src) (hfit : i ≤ cur.length) (hl : i ≤ src.length)
    (h1 : ∀ v ∈ src.take i, v.oneCell' = true) :
    (rg 15).wp Try.prog (onNormal fun a' w' => ∃ f', a' = ⟨frame f', D⟩ ∧ Eqv [65, 64, 63, 62, 61, 60, 59] f f' ∧ Blk w' g 5 (splice cur 0 (src.take i)) ∧ Only g w w') ⟨frame f, D⟩ w := by
  have e1 : (0 : Int) ≤ (i : Int) := by omega
  have e2 : (i : Int) ≤ (c1 : Int) := by omega
  have e3 : (i : Int) ≤ (c2 : Int) := by omega
  have hcl : (src.take i).length = Nat.min i i := by rw [List.length_take]; have : Nat.min i i = i := Nat.min_self i; omega
  have hsrc := head_src (w := w.drew) hh i
  have hf : 0 + (src.take i).length ≤ cur.length := by rw [List.length_take]; omega
  conv => arg 2; whnf
  go_region_law ((refine step_copy_mz rfl (.tmp 61) (.tmp 64) 22 22 rfl 5 Try.underlying22 size5 (some ⟨g, 0, none⟩) (some ⟨h, 0, none⟩) i c1 i c2 (by simp [Act.eval, Act.put, frame_at, frame_set, upd_same, upd_ne]) (by simp [Act.eval, Act.put, frame_at, frame_set, upd_same, upd_ne]) g 0 cur 5 hg (src.take i) hcl (fun _ => ⟨rfl, _, rfl, hsrc⟩) hf h1 ?_; intro w1 hB1 hO1))
  exact ⟨_, rfl, by repeat (first | exact Eqv.refl _ | apply Eqv.step), hB1, hO1.of_drew⟩

set_option maxHeartbeats 400000 in
theorem rg24_ (f : Nat → Value) (w : World) (g h i n m c1 c2 : Nat) (cur src : List Value)
    (h6 : f 6 = .slice (some ⟨g, 0, none⟩) m c1) (h0 : f 0 = .slice (some ⟨h, 0, none⟩) n c2) (h11 : f 11 = .int .i64 i)
    (him : i ≤ m) (hin : i ≤ n) (hm : m ≤ c1) (hn : n ≤ c2) (hc2 : i ≤ 2000) (hg : Blk w g 5 cur) (hh : Blk w h 5 src) (hfit : i ≤ cur.length) (hl : i ≤ src.length)
    (h1 : ∀ v ∈ src.take i, v.oneCell' = true) :
    (rg 24).wp Try.prog (onNormal fun a' w' => ∃ f', a' = ⟨frame f', D⟩ ∧ Eqv [103, 102, 101, 100, 99] f f' ∧ Blk w' g 5 (splice cur 0 (src.take i)) ∧ Only g w w') ⟨frame f, D⟩ w := by
  have e1 : (0 : Int) ≤ (i : Int) := by omega
  have e2 : (i : Int) ≤ (m : Int) := by omega
  have e3 : (i : Int) ≤ (c2 : Int) := by omega
  have hcl : (src.take i).length = Nat.min i m := by rw [List.length_take]; have : Nat.min i m = i := Nat.min_eq_left him; omega
  have hsrc := head_src (w := w) hh i
  have hf : 0 + (src.take i).length ≤ cur.length := by rw [List.length_take]; omega
  conv => arg 2; whnf
  go_wp2_with (with_reducible refine wpList_copy_mz rfl (.tmp 99) (.tmp 102) 22 22 rfl 5 Try.underlying22 size5 (some ⟨g, 0, none⟩) (some ⟨h, 0, none⟩) m c1 i c2 (by simp [Act.eval, Act.put, frame_at, frame_set, upd_same, upd_ne]) (by simp [Act.eval, Act.put, frame_at, frame_set, upd_same, upd_ne]) g 0 cur 5 hg (src.take i) hcl (fun _ => ⟨rfl, _, rfl, hsrc⟩) hf h1 ?_; intro w1 hB1 hO1)
  exact ⟨_, rfl, by repeat (first | exact Eqv.refl _ | apply Eqv.step), hB1, hO1⟩

set_option maxHeartbeats 800000 in
theorem rg16_ (f : Nat → Value) (w : World) (g h i n m c1 c2 : Nat) (cur src : List Value)
    (h10 : f 10 = .slice (some ⟨g, 0, none⟩) m c1) (h0 : f 0 = .slice (some ⟨h, 0, none⟩) n c2) (h9 : f 9 = .int .i64 i)
    (hi : i < c1) (him : i ≤ m) (hm : m ≤ c1) (hj : (i + 1) ≤ n) (hij : n - (i + 1) ≤ m - i) (hn : n ≤ c2) (hl2 : n ≤ 2000) (hl3 : m ≤ 2000) (hg : Blk w g 5 cur) (hh : Blk w h 5 src) (hl : n ≤ src.length) (hfit : m ≤ cur.length)
    (h1 : ∀ v ∈ (src.drop (i + 1)).take (n - (i + 1)), v.oneCell' = true) :
    (rg 16).wp Try.prog (onNormal fun a' w' => ∃ f', a' = ⟨frame f', D⟩ ∧ Eqv [73, 72, 71, 70, 69, 68, 67, 66] f f' ∧ Blk w' g 5 (splice cur i ((src.drop (i + 1)).take (n - (i + 1)))) ∧ Only g w w') ⟨frame f, D⟩ w := by
  have e1 : (0 : Int) ≤ (i : Int) := by omega
  have e2 : (i : Int) ≤ (m : Int) := by omega
  have e3 : (0 : Int) ≤ ((i : Int) + 1) := by omega
  have e4 : ((i : Int) + 1) ≤ (n : Int) := by omega
  have hne : ¬ c1 = i := by omega
  have ew : IntKind.i64.wrap ((i : Int) + 1) = (i : Int) + 1 := IntWalk.i64_in _ (by omega)
  have et : ((i : Int) + 1).toNat = i + 1 := by omega
  have hcl : ((src.drop (i + 1)).take (n - (i + 1))).length = Nat.min (n - (i + 1)) (m - i) := by
    rw [List.length_take, List.length_drop]
    have : Nat.min (n - (i + 1)) (m - i) = n - (i + 1) := Nat.min_eq_left (by omega)
    omega
  have hsrc := tail_src (w := w.drew) hh (i + 1) (n - (i + 1))
  have hf : i + ((src.drop (i + 1)).take (n - (i + 1))).length ≤ cur.length := by rw [List.length_take, List.length_drop]; omega
  by_cases hcj : c2 = (i + 1)
  · have hnil : (src.drop (i + 1)).take (n - (i + 1)) = [] := List.eq_nil_of_length_eq_zero (by rw [List.length_take, List.length_drop]; omega)
    rw [hnil]
    clear hcl hsrc hf hnil h1
    subst hcj
    have hm0 : ([] : List Value).length = Nat.min 0 (m - i) := by have : Nat.min 0 (m - i) = 0 := Nat.zero_min _; simp [this]
    conv => arg 2; whnf
    go_region_law ((refine step_copy_mz rfl (.tmp 68) (.tmp 72) 22 22 rfl 5 Try.underlying22 size5 (some ⟨g, i, none⟩) (some ⟨h, 0, none⟩) (m - i) (c1 - i) 0 0 (by simp [Act.eval, Act.put, frame_at, frame_set, upd_same, upd_ne]) (by simp [Act.eval, Act.put, frame_at, frame_set, upd_same, upd_ne]) g i cur 5 hg [] hm0 (fun h => absurd h (Nat.lt_irrefl 0)) (by simp; omega) (fun _ h => by cases h) ?_; intro w1 hB1 hO1))
    exact ⟨_, rfl, by repeat (first | exact Eqv.refl _ | apply Eqv.step), hB1, hO1.of_drew⟩
  · conv => arg 2; whnf
    go_region_law ((refine step_copy_mz rfl (.tmp 68) (.tmp 72) 22 22 rfl 5 Try.underlying22 size5 (some ⟨g, i, none⟩) (some ⟨h, i + 1, none⟩) (m - i) (c1 - i) (n - (i + 1)) (c2 - (i + 1)) (by simp [Act.eval, Act.put, frame_at, frame_set, upd_same, upd_ne]) (by simp [Act.eval, Act.put, frame_at, frame_set, upd_same, upd_ne]) g i cur 5 hg ((src.drop (i + 1)).take (n - (i + 1))) hcl (fun _ => ⟨rfl, _, rfl, hsrc⟩) hf h1 ?_; intro w1 hB1 hO1))
    exact ⟨_, rfl, by repeat (first | exact Eqv.refl _ | apply Eqv.step), hB1, hO1.of_drew⟩

set_option maxHeartbeats 800000 in
theorem rg18_ (f : Nat → Value) (w : World) (g i n c2 : Nat) (cur : List Value)
    (h0 : f 0 = .slice (some ⟨g, 0, none⟩) n c2) (h9 : f 9 = .int .i64 i)
    (hi : i < n) (hij : i ≤ i + 1) (hj : i + 1 ≤ n) (hn : n ≤ c2) (hl2 : n ≤ 2000) (hg : Blk w g 5 cur) (hl : n ≤ cur.length)
    (h1 : ∀ v ∈ (cur.drop (i + 1)).take (n - (i + 1)), v.oneCell' = true) :
    (rg 18).wp Try.prog (onNormal fun a' w' => ∃ f', a' = ⟨frame f', D⟩ ∧ Eqv [85, 84, 83, 82, 81, 80, 79, 78] f f' ∧ Blk w' g 5 (splice cur i ((cur.drop (i + 1)).take (n - (i + 1)))) ∧ Only g w w') ⟨frame f, D⟩ w := by
  have hh := hg
  have e1 : (0 : Int) ≤ (i : Int) := by omega
  have e2 : (i : Int) ≤ (n : Int) := by omega
  have e3 : (0 : Int) ≤ ((i : Int) + 1) := by omega
  have e4 : ((i : Int) + 1) ≤ (n : Int) := by omega
  have hne : ¬ c2 = i := by omega
  have ew : IntKind.i64.wrap ((i : Int) + 1) = (i : Int) + 1 := IntWalk.i64_in _ (by omega)
  have et : ((i : Int) + 1).toNat = i + 1 := by omega
  have hcl : ((cur.drop (i + 1)).take (n - (i + 1))).length = Nat.min (n - (i + 1)) (n - i) := by
    rw [List.length_take, List.length_drop]
    have : Nat.min (n - (i + 1)) (n - i) = n - (i + 1) := Nat.min_eq_left (by omega)
    omega
  have hsrc := tail_src (w := w.drew) hh (i + 1) (n - (i + 1))
  have hf : i + ((cur.drop (i + 1)).take (n - (i + 1))).length ≤ cur.length := by rw [List.length_take, List.length_drop]; omega
  by_cases hcj : c2 = (i + 1)
  · have hnil : (cur.drop (i + 1)).take (n - (i + 1)) = [] := List.eq_nil_of_length_eq_zero (by rw [List.length_take, List.length_drop]; omega)
    rw [hnil]
    clear hcl hsrc hf hnil h1
    subst hcj
    have hm0 : ([] : List Value).length = Nat.min 0 (n - i) := by have : Nat.min 0 (n - i) = 0 := Nat.zero_min _; simp [this]
    conv => arg 2; whnf
    go_region_law ((refine step_copy_mz rfl (.tmp 80) (.tmp 84) 22 22 rfl 5 Try.underlying22 size5 (some ⟨g, i, none⟩) (some ⟨g, 0, none⟩) (n - i) ((i + 1) - i) 0 0 (by simp [Act.eval, Act.put, frame_at, frame_set, upd_same, upd_ne]) (by simp [Act.eval, Act.put, frame_at, frame_set, upd_same, upd_ne]) g i cur 5 hg [] hm0 (fun h => absurd h (Nat.lt_irrefl 0)) (by simp; omega) (fun _ h => by cases h) ?_; intro w1 hB1 hO1))
    exact ⟨_, rfl, by repeat (first | exact Eqv.refl _ | apply Eqv.step), hB1, hO1.of_drew⟩
  · conv => arg 2; whnf
    go_region_law ((refine step_copy_mz rfl (.tmp 80) (.tmp 84) 22 22 rfl 5 Try.underlying22 size5 (some ⟨g, i, none⟩) (some ⟨g, i + 1, none⟩) (n - i) (c2 - i) (n - (i + 1)) (c2 - (i + 1)) (by simp [Act.eval, Act.put, frame_at, frame_set, upd_same, upd_ne]) (by simp [Act.eval, Act.put, frame_at, frame_set, upd_same, upd_ne]) g i cur 5 hg ((cur.drop (i + 1)).take (n - (i + 1))) hcl (fun _ => ⟨rfl, _, rfl, hsrc⟩) hf h1 ?_; intro w1 hB1 hO1))
    exact ⟨_, rfl, by repeat (first | exact Eqv.refl _ | apply Eqv.step), hB1, hO1.of_drew⟩

set_option maxHeartbeats 800000 in
theorem rg30_ (f : Nat → Value) (w : World) (g h i j n m c1 c2 : Nat) (cur src : List Value)
    (h13 : f 13 = .slice (some ⟨g, 0, none⟩) m c1) (h0 : f 0 = .slice (some ⟨h, 0, none⟩) n c2) (h11 : f 11 = .int .i64 i) (h12 : f 12 = .int .i64 j)
    (hi : i < c1) (him : i ≤ m) (hm : m ≤ c1) (hj : j ≤ n) (hij : n - j ≤ m - i) (hn : n ≤ c2) (hl2 : n ≤ 2000) (hl3 : m ≤ 2000) (hg : Blk w g 5 cur) (hh : Blk w h 5 src) (hl : n ≤ src.length) (hfit : m ≤ cur.length)
    (h1 : ∀ v ∈ (src.drop j).take (n - j), v.oneCell' = true) :
    (rg 30).wp Try.prog (onNormal fun a' w' => ∃ f', a' = ⟨frame f', D⟩ ∧ Eqv [128, 127, 126, 125, 124, 123, 122] f f' ∧ Blk w' g 5 (splice cur i ((src.drop j).take (n - j))) ∧ Only g w w') ⟨frame f, D⟩ w := by
  have e1 : (0 : Int) ≤ (i : Int) := by omega
  have e2 : (i : Int) ≤ (m : Int) := by omega
  have e3 : (0 : Int) ≤ (j : Int) := by omega
  have e4 : (j : Int) ≤ (n : Int) := by omega
  have hne : ¬ c1 = i := by omega
  have hcl : ((src.drop j).take (n - j)).length = Nat.min (n - j) (m - i) := by
    rw [List.length_take, List.length_drop]
    have : Nat.min (n - j) (m - i) = n - j := Nat.min_eq_left (by omega)
    omega
  have hsrc := tail_src (w := w.drew) hh j (n - j)
  have hf : i + ((src.drop j).take (n - j)).length ≤ cur.length := by rw [List.length_take, List.length_drop]; omega
  by_cases hcj : c2 = j
  · have hnil : (src.drop j).take (n - j) = [] := List.eq_nil_of_length_eq_zero (by rw [List.length_take, List.length_drop]; omega)
    rw [hnil]
    clear hcl hsrc hf hnil h1
    obtain rfl : j = c2 := hcj.symm
    have hm0 : ([] : List Value).length = Nat.min 0 (m - i) := by have : Nat.min 0 (m - i) = 0 := Nat.zero_min _; simp [this]
    conv => arg 2; whnf
    go_region_law ((refine step_copy_mz rfl (.tmp 124) (.tmp 127) 22 22 rfl 5 Try.underlying22 size5 (some ⟨g, i, none⟩) (some ⟨h, 0, none⟩) (m - i) (c1 - i) 0 0 (by simp [Act.eval, Act.put, frame_at, frame_set, upd_same, upd_ne]) (by simp [Act.eval, Act.put, frame_at, frame_set, upd_same, upd_ne]) g i cur 5 hg [] hm0 (fun h => absurd h (Nat.lt_irrefl 0)) (by simp; omega) (fun _ h => by cases h) ?_; intro w1 hB1 hO1))
    exact ⟨_, rfl, by repeat (first | exact Eqv.refl _ | apply Eqv.step), hB1, hO1.of_drew⟩
  · conv => arg 2; whnf
    go_region_law ((refine step_copy_mz rfl (.tmp 124) (.tmp 127) 22 22 rfl 5 Try.underlying22 size5 (some ⟨g, i, none⟩) (some ⟨h, j, none⟩) (m - i) (c1 - i) (n - j) (c2 - j) (by simp [Act.eval, Act.put, frame_at, frame_set, upd_same, upd_ne]) (by simp [Act.eval, Act.put, frame_at, frame_set, upd_same, upd_ne]) g i cur 5 hg ((src.drop j).take (n - j)) hcl (fun _ => ⟨rfl, _, rfl, hsrc⟩) hf h1 ?_; intro w1 hB1 hO1))
    exact ⟨_, rfl, by repeat (first | exact Eqv.refl _ | apply Eqv.step), hB1, hO1.of_drew⟩

set_option maxHeartbeats 800000 in
theorem rg32_ (f : Nat → Value) (w : World) (g i j n c2 : Nat) (cur : List Value)
    (h0 : f 0 = .slice (some ⟨g, 0, none⟩) n c2) (h11 : f 11 = .int .i64 i) (h12 : f 12 = .int .i64 j)
    (hi : i < n) (hij : i ≤ j) (hj : j ≤ n) (hn : n ≤ c2) (hl2 : n ≤ 2000) (hg : Blk w g 5 cur) (hl : n ≤ cur.length)
    (h1 : ∀ v ∈ (cur.drop j).take (n - j), v.oneCell' = true) :
    (rg 32).wp Try.prog (onNormal fun a' w' => ∃ f', a' = ⟨frame f', D⟩ ∧ Eqv [139, 138, 137, 136, 135, 134, 133] f f' ∧ Blk w' g 5 (splice cur i ((cur.drop j).take (n - j))) ∧ Only g w w') ⟨frame f, D⟩ w := by
  have hh := hg
  have e1 : (0 : Int) ≤ (i : Int) := by omega
  have e2 : (i : Int) ≤ (n : Int) := by omega
  have e3 : (0 : Int) ≤ (j : Int) := by omega
  have e4 : (j : Int) ≤ (n : Int) := by omega
  have hne : ¬ c2 = i := by omega
  have hcl : ((cur.drop j).take (n - j)).length = Nat.min (n - j) (n - i) := by
    rw [List.length_take, List.length_drop]
    have : Nat.min (n - j) (n - i) = n - j := Nat.min_eq_left (by omega)
    omega
  have hsrc := tail_src (w := w.drew) hh j (n - j)
  have hf : i + ((cur.drop j).take (n - j)).length ≤ cur.length := by rw [List.length_take, List.length_drop]; omega
  by_cases hcj : c2 = j
  · have hnil : (cur.drop j).take (n - j) = [] := List.eq_nil_of_length_eq_zero (by rw [List.length_take, List.length_drop]; omega)
    rw [hnil]
    clear hcl hsrc hf hnil h1
    obtain rfl : j = c2 := hcj.symm
    have hm0 : ([] : List Value).length = Nat.min 0 (n - i) := by have : Nat.min 0 (n - i) = 0 := Nat.zero_min _; simp [this]
    conv => arg 2; whnf
    go_region_law ((refine step_copy_mz rfl (.tmp 135) (.tmp 138) 22 22 rfl 5 Try.underlying22 size5 (some ⟨g, i, none⟩) (some ⟨g, 0, none⟩) (n - i) (j - i) 0 0 (by simp [Act.eval, Act.put, frame_at, frame_set, upd_same, upd_ne]) (by simp [Act.eval, Act.put, frame_at, frame_set, upd_same, upd_ne]) g i cur 5 hg [] hm0 (fun h => absurd h (Nat.lt_irrefl 0)) (by simp; omega) (fun _ h => by cases h) ?_; intro w1 hB1 hO1))
    exact ⟨_, rfl, by repeat (first | exact Eqv.refl _ | apply Eqv.step), hB1, hO1.of_drew⟩
  · conv => arg 2; whnf
    go_region_law ((refine step_copy_mz rfl (.tmp 135) (.tmp 138) 22 22 rfl 5 Try.underlying22 size5 (some ⟨g, i, none⟩) (some ⟨g, j, none⟩) (n - i) (c2 - i) (n - j) (c2 - j) (by simp [Act.eval, Act.put, frame_at, frame_set, upd_same, upd_ne]) (by simp [Act.eval, Act.put, frame_at, frame_set, upd_same, upd_ne]) g i cur 5 hg ((cur.drop j).take (n - j)) hcl (fun _ => ⟨rfl, _, rfl, hsrc⟩) hf h1 ?_; intro w1 hB1 hO1))
    exact ⟨_, rfl, by repeat (first | exact Eqv.refl _ | apply Eqv.step), hB1, hO1.of_drew⟩

end Go.Proofs.Ytganmbbdmoldeaa.Mz
