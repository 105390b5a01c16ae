/-
  Around: bytes minimized for a part of them are just this part.
  Conditions: at most 2000 bytes; the part is not empty and stands in the bytes; at most 65536 tries.
-/
import Derived.Test.YtganmbbdmoldeaaMMin
import Derived.Test.YtganmbbdmoldeaaMHas
import Derived.KernelRfl
namespace Go.Proofs.Ytganmbbdmoldeaa.Mz
open Go.RowKit
set_option linter.unusedSimpArgs false

theorem enters {f : FuncId} {fn : Func} (hf : Try.prog.funcs[f]? = some fn) (hname : (fn.name == "runtime.NumGoroutine") = false) (hb : fn.body.isSome = true) (args : Array Value) (w : World) :
    (callFunc f args).run Try.prog w = .ok (.enter f args) w := by
  have h1 : fn.name ≠ "runtime.NumGoroutine" := by simpa using hname
  obtain ⟨c, hc⟩ := Option.isSome_iff_exists.1 hb
  simp [callFunc, hf, h1, hc]
theorem enters18 (args : Array Value) (w : World) : (callFunc 18 args).run Try.prog w = .ok (.enter 18 args) w := enters Try.func18 (by kernel_rfl) (by kernel_rfl) args w
theorem enters21 (args : Array Value) (w : World) : (callFunc 21 args).run Try.prog w = .ok (.enter 21 args) w := enters Try.func21 (by kernel_rfl) (by kernel_rfl) args w

set_option maxHeartbeats 400000 in
theorem keep_has (w1 : World) (H : Nat) (part : List Int) (B : Option Addr) (d : Nat) (hcell : w1.cell? ⟨H, 0, none⟩ = some (.slice B part.length d)) (hB : RdS w1 B part) (hp : part.length ≤ 2000) (hy : Byt part) :
    KeepC 18 H w1 fun xs => hasB xs part := by
  intro w xs A c hb hr hx hl hbyt
  have hc : w.cell? ⟨H, 0, none⟩ = some (.slice B part.length d) := (hb.cell (World.block_lt_of_cell? w1 _ hcell)).trans hcell
  have HB := Lib.hid (hB.below hb)
  have HR := Lib.hid hr
  have HX := Lib.hid hbyt
  have HY := Lib.hid hy
  clear hcell hB hr hbyt hy hb
  go_enter Try.func18, Try.ntmps18
  go_wp2_with (go_at_call 19; refine (has19 w xs part A B c d HR.out HB.out hx hl hp HX.out HY.out).mono ?_; rintro e w' ⟨rfl, m, rfl⟩)
  go_ret
  exact ⟨rfl, m, rfl⟩

/-- append([]byte{}, xs...): a slice in new memory that reads as xs. -/
theorem wpList_empty_append {w : World} {g : Nat} {ops : Array Oper} {rest : List Oper} {o : Oper} {a : Act} {Q : Exit → Act → World → Prop} (hgd : o.guard = none) (s x : Operand)
    (ho : o.op = .call { callee := .builtin .append, args := #[s, x], argTypes := #[22, 22] }) (hs : a.eval s = .slice (some ⟨g, 0, none⟩) 0 0) (hg : Blk w g 5 [])
    (xs : List Int) (A : Option Addr) (c : Nat) (hx : a.eval x = .slice A xs.length c) (hr : RdS w A xs) (hpos : 0 < xs.length) (hl : xs.length ≤ 2000)
    (h : ∀ g' cap w', RdS w' (some ⟨g', 0, none⟩) xs → xs.length ≤ cap → w.grownBy w' (some g) →
      wpList Try.prog ops Q rest (a.put o.dst (.slice (some ⟨g', 0, none⟩) xs.length cap)) w') : wpList Try.prog ops Q (o :: rest) a w := by
  obtain ⟨i0, hi, hz0, hz1, hz2⟩ := info_parts info5
  obtain ⟨ad, rfl, hc⟩ := hr hpos
  have hlt := hg.lt
  refine wpList_append_lies (P := Try.prog) w hgd s x 22 ho 0 5 i0 _ 1 1 Try.underlying22 hi hz0 hz1 hz2 rfl (by decide) _ 0 [] hs ⟨by simp, .inr ⟨g, 0, #[], rfl, Nat.zero_le _, hg, Nat.le_refl _, by simp [maxLen], rfl, rfl⟩⟩ ad xs.length c (bys xs) hx (by simp [bys]) hc (bys_one _) hpos
    (by unfold maxLen; omega) (by omega) (Nat.zero_le _) w.heap.size rfl ?_
  intro g' cap w' hown hgrow hat hlt'
  rw [Nat.zero_add]
  rcases hown.2 with ⟨h1, _⟩ | ⟨g'', cap', cur, h1, _, h3, h4, _, h6, h7⟩
  · cases h1
  · injection h1 with h1 h1' h1''
    injection h1 with h1
    injection h1 with h1
    subst h1 h1''
    refine h g' cap w' ?_ (by omega) hgrow
    have e : bys xs ++ cur.toList.drop xs.length = cur.toList := by
      have : cur.toList.take xs.length = bys xs := by simpa using h7
      rw [← this, List.take_append_drop]
    have hB : Blk w' g' 5 (bys xs ++ cur.toList.drop xs.length) := by
      unfold Blk
      rw [e]
      exact h3
    exact hB.rds

set_option maxHeartbeats 400000 in
theorem around_calls (w : World) (b part : List Int) (A B : Option Addr) (c d S : Nat) (hA : RdS w A b) (hB : RdS w B part) (hl : b.length ≤ 2000) (hp : part.length ≤ 2000) (hx : Byt b) (hy : Byt part)
    (hS : S ≤ 65536) (hpos : 0 < part.length) (hhas : hasB b part = true) :
    Calls Try.prog 10 #[.slice A b.length c, .slice B part.length d, .int .i64 S] w
      fun e w' => ∃ R A' c', e = .returned (.slice A' R.length c') ∧ Reach (fun xs => hasB xs part) S b (.stop R) ∧ RdS w' A' R ∧ R.length ≤ c' ∧ Below w.heap.size w w' := by
  have h0 : hasB [] part = false := hasB_false fun i hi => by have h := hi.1; rw [List.length_nil] at h; omega
  have hbpos : 0 < b.length := by
    cases b with
    | nil => rw [h0] at hhas; cases hhas
    | cons x r => simp
  have HA := Lib.hid hA
  have HB := Lib.hid hB
  have HX := Lib.hid hx
  have HY := Lib.hid hy
  have HP := Lib.hid hbpos
  have HH := Lib.hid hhas
  have H0 := Lib.hid h0
  have hblk : Blk ((w.alloc (.cells #[.slice B part.length d] 22)).alloc (.cells #[] 5)) (w.heap.size + 1) 5 [] := by
    have h := heap_alloc_new (w.alloc (.cells #[.slice B part.length d] 22)) (.cells #[] 5)
    have e : (w.alloc (.cells #[.slice B part.length d] 22)).heap.size = w.heap.size + 1 := by simp
    rw [e] at h
    exact h
  have HG := Lib.hid hblk
  clear hA hB hx hy hbpos hhas h0 hblk
  go_enter Try.func10, Try.ntmps10
  go_wp2_with (at_builtin; refine wpList_empty_append rfl (.tmp 7) (.tmp 8) rfl rfl HG.out b A c rfl ((HA.out.alloc _).alloc _) HP.out hl ?_; intro g' cap w1 hr1 hcap hg1)
  have hb1 : Below w.heap.size w w1 := ((((Below.refl _ _).alloc (Nat.le_refl _) _).alloc (by simp) _).grown hg1 (by simp; omega) (fun k hk => by injection hk with hk; omega))
  have hcell : w1.cell? ⟨w.heap.size, 0, none⟩ = some (.slice B part.length d) := by
    have h1 : Blk (w.alloc (.cells #[.slice B part.length d] 22)) w.heap.size 22 [.slice B part.length d] := heap_alloc_new w _
    have h2 := (h1.alloc (.cells #[] 5)).grown hg1 (by intro e; injection e with e; omega)
    exact h2.cell 0
  have hB1 := HB.out.below hb1
  refine (min_calls (fun xs => hasB xs part) 18 w.heap.size w1 b _ cap S enters18 (keep_has w1 _ part B d hcell hB1 hp HY.out) H0.out HH.out hr1 hl HX.out hS).mono ?_
  clear hr1 hcap hcell hB1 hg1
  rintro e w2 ⟨R, A', c', rfl, hR, hrd, hle, hb2⟩
  have HF := Lib.hid (And.intro hR (And.intro hrd (And.intro hle (hb1.trans (hb2.mono hb1.size)))))
  clear hR hrd hle hb2 hb1
  go_wp2_with fail
  go_ret
  exact ⟨R, A', c', rfl, HF.out⟩

/-! ### What is left is just the part -/
theorem partish_has (part : List Int) (hpos : 0 < part.length) : Partish (fun xs => hasB xs part) part where
  pos := hpos
  ends x := hasB_true (i := x.length) ⟨by simp, by simp⟩
  long x h := by
    obtain ⟨i, h1, _⟩ := hasB_of h
    omega
  same x h hl := by
    obtain ⟨i, h1, h2⟩ := hasB_of h
    have : i = 0 := by omega
    subst this
    rw [List.drop_zero, List.take_of_length_le (by omega)] at h2
    exact h2
  tail x h ht := by
    obtain ⟨i, h1, h2⟩ := hasB_of h
    by_cases e : i + part.length = x.length
    · refine ⟨x.take i, ?_⟩
      rw [List.take_of_length_le (by rw [List.length_drop]; omega)] at h2
      have h3 := List.take_append_drop i x
      rw [h2] at h3
      exact h3.symm
    · exfalso
      rcases ht with ht | ht
      · omega
      · have : hasB (x.take (x.length - 1)) part = true := by
          refine hasB_true (i := i) ⟨by rw [List.length_take]; omega, ?_⟩
          rw [List.drop_take, List.take_take]
          have : min part.length (x.length - 1 - i) = part.length := by omega
          rw [this, h2]
        exact absurd (this.symm.trans ht) (by simp)

/-- Two tries for each byte, and 64 more, are enough: just the part. -/
theorem around_part (w : World) (b part : List Int) (A B : Option Addr) (c d S : Nat) (hA : RdS w A b) (hB : RdS w B part) (hl : b.length ≤ 2000) (hp : part.length ≤ 2000) (hx : Byt b) (hy : Byt part)
    (hS : S ≤ 65536) (hpos : 0 < part.length) (hhas : hasB b part = true) (hen : 2 * b.length + 64 ≤ S) :
    Calls Try.prog 10 #[.slice A b.length c, .slice B part.length d, .int .i64 S] w
      fun e w' => ∃ A' c', e = .returned (.slice A' part.length c') ∧ RdS w' A' part ∧ part.length ≤ c' ∧ Below w.heap.size w w' := by
  refine (around_calls w b part A B c d S hA hB hl hp hx hy hS hpos hhas).mono ?_
  rintro e w' ⟨R, A', c', rfl, hR, hrd, hle, hb⟩
  have e1 : R = part := hR.prt (partish_has part hpos) hhas hen
  subst e1
  exact ⟨A', c', rfl, hrd, hle, hb⟩

end Go.Proofs.Ytganmbbdmoldeaa.Mz
