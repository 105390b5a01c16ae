/-
  spec.Tight returns true of bytes that are wanted, and of which no one byte may be left out.
  Conditions: that the slices can be read; at most 2000 bytes, at most 50 rows of at most 2000 bytes.
-/
import Derived.Test.YtganmbbdmoldeaaMImplMin
import Derived.Maps.AppendAt
import Derived.Deep.RegionLaw
namespace Go.Proofs.Ytganmbbdmoldeaa.Mz
open Go.RowKit
set_option linter.unusedSimpArgs false
set_option linter.unusedVariables false

/-- append onto bytes of the call's own, the source nil, empty or not. -/
theorem run_append_mz (w : World) (base ty : Nat) (v : Value) (xs ys : List Int) (hown : w.ownsRow base 5 1 v xs.length (bys xs)) (A : Option Addr) (c : Nat) (hr : RdS w A ys) (hl : xs.length + ys.length ≤ 4000) (hbase : base ≤ w.heap.size) :
    ∃ v' w', (Builtin.append_ #[22, 22] ty #[v, .slice A ys.length c]).run Try.prog w = .ok v' w' ∧ w'.ownsRow base 5 1 v' (xs ++ ys).length (bys (xs ++ ys)) ∧ w.grownBy w' v.ownBlock := by
  obtain ⟨i0, hi, hz0, hz1, hz2⟩ := info_parts info5
  have hdone : ∀ (ad : Addr), (∀ j u, (bys ys)[j]? = some u → w.cell? (ad.add j) = some u) →
      ∃ v' w', (Builtin.append_ #[22, 22] ty #[v, .slice (some ad) ys.length c]).run Try.prog w = .ok v' w' ∧ w'.ownsRow base 5 1 v' (xs ++ ys).length (bys (xs ++ ys)) ∧ w.grownBy w' v.ownBlock := by
    intro ad hc
    obtain ⟨v', w', h1, h2, h3, _⟩ := run_append_own_at (P := Try.prog) w base 22 ty 5 i0 _ 1 1 Try.underlying22 hi hz0 hz1 hz2 rfl (by decide) v xs.length (bys xs) hown ad ys.length c (bys ys) (by simp [bys]) hc (bys_one _)
      (by unfold maxLen; omega) (by omega) hbase
    exact ⟨v', w', h1, by rw [List.length_append, bys_append]; exact h2, h3⟩
  by_cases hp : 0 < ys.length
  · obtain ⟨ad, rfl, hc⟩ := hr hp
    exact hdone ad hc
  · obtain rfl : ys = [] := List.eq_nil_of_length_eq_zero (by omega)
    cases A with
    | some ad => exact hdone ad (fun j u hj => by simp [bys] at hj)
    | none =>
      refine ⟨v, w, ?_, by simpa using hown, World.grownBy.refl w _⟩
      rcases hown.2 with ⟨rfl, _⟩ | ⟨g, cap, cur, rfl, _, _, hnc, _⟩
      · simp [Builtin.append_, run_underlying Try.underlying22, sizeOf, typeInfo, hi, Builtin.lenOf, Builtin.firstCells]
      · simp [Builtin.append_, run_underlying Try.underlying22, sizeOf, typeInfo, hi, Builtin.lenOf, Builtin.firstCells, hnc, storeCells]

theorem step_append_mz {ops : Array Oper} {o : Oper} {a : Act} {w : World} {K : Act → World → Prop} {Q : Exit → Act → World → Prop} {E : Prop} (hgd : o.guard = none) (s x : Operand)
    (ho : o.op = .call { callee := .builtin .append, args := #[s, x], argTypes := #[22, 22] }) (base : Nat) (v : Value) (xs : List Int) (hs : a.eval s = v) (hown : w.ownsRow base 5 1 v xs.length (bys xs))
    (A : Option Addr) (m c : Nat) (ys : List Int) (hx : a.eval x = .slice A m c) (hm : ys.length = m) (hr : RdS w A ys) (hl : xs.length + ys.length ≤ 4000) (hbase : base ≤ w.heap.size)
    (h : ∀ v' w', w'.ownsRow base 5 1 v' (xs ++ ys).length (bys (xs ++ ys)) → w.grownBy w' v.ownBlock → K (a.put o.dst v') w') :
    if Region.wanted o (yielded ops a.tmps) = true then Oper.wp Try.prog o a w K Q else E := by
  have hw : Region.wanted o (yielded ops a.tmps) = true := by simp [Region.wanted, hgd]
  rw [if_pos hw]
  subst hm
  obtain ⟨v', w', hrun, h2, h3⟩ := run_append_mz w base o.type v xs ys hown A c hr hl hbase
  unfold Oper.wp execOp
  simp only [ho, resolve, invoke, builtin, Sem.run_bind, Sem.run_pure, Result.andThen_ok, List.map_toArray, List.map_cons, List.map_nil, hs, hx, hrun]
  exact h v' w' h2 h3

/-- A call of a Go function of two arguments, as one step of a region that draws. -/
theorem step_call_mz {ops : Array Oper} {o : Oper} {a : Act} {w : World} {K : Act → World → Prop} {Q : Exit → Act → World → Prop} {E : Prop} (hgd : o.guard = none) (f : FuncId) (s x : Operand) (ts : Array TypeId)
    (ho : o.op = .call { callee := .value (.func f), args := #[s, x], argTypes := ts }) (vs vx : Value) (hs : a.eval s = vs) (hx : a.eval x = vx) (hent : ∀ (args : Array Value) (w : World), (callFunc f args).run Try.prog w = .ok (.enter f args) w)
    (r : Value) (hc : Calls Try.prog f #[vs, vx] w fun e w' => e = .returned r ∧ w = w') (h : K (a.put o.dst r) w) :
    if Region.wanted o (yielded ops a.tmps) = true then Oper.wp Try.prog o a w K Q else E := by
  have hw : Region.wanted o (yielded ops a.tmps) = true := by simp [Region.wanted, hgd]
  rw [if_pos hw]
  have hf : a.eval (.func f) = .func (.func f) #[] #[] := rfl
  unfold Oper.wp execOp
  simp only [ho, resolve, Deferred.ofValue, hf, invoke, Sem.run_bind, Sem.run_pure, Result.andThen_ok, List.map_toArray, List.map_cons, List.map_nil, hs, hx, hent, List.append_toArray, List.nil_append, List.append_nil]
  refine hc.mono ?_
  rintro e w' ⟨rfl, rfl⟩
  exact h

theorem enters13 (args : Array Value) (w : World) : (callFunc 13 args).run Try.prog w = .ok (.enter 13 args) w := enters Try.func13 (by kernel_rfl) (by kernel_rfl) args w

theorem own_rds {w : World} {base : Nat} {v : Value} {xs : List Int} (h : w.ownsRow base 5 1 v xs.length (bys xs)) : ∃ A c, v = .slice A xs.length c ∧ RdS w A xs ∧ xs.length ≤ c := by
  rcases h.2 with ⟨rfl, h0⟩ | ⟨g, cap, cur, rfl, _, hh, hc, _, _, ht⟩
  · exact ⟨none, 0, by rw [h0], fun hp => by omega, by omega⟩
  · refine ⟨_, cap, rfl, ?_, hc⟩
    have e : bys xs ++ cur.toList.drop xs.length = cur.toList := by
      have : cur.toList.take xs.length = bys xs := by simpa using ht
      rw [← this, List.take_append_drop]
    have hB : Blk w g 5 (bys xs ++ cur.toList.drop xs.length) := by
      unfold Blk
      rw [e]
      exact hh
    exact hB.rds

theorem own_rds_n {w : World} {base : Nat} {v : Value} {xs : List Int} (h : w.ownsRow base 5 1 v xs.length (bys xs)) : ∃ A n c, v = .slice A n c ∧ Hid (n = xs.length) ∧ RdS w A xs ∧ xs.length ≤ c := by
  obtain ⟨A, c, h1, h2, h3⟩ := own_rds h
  exact ⟨A, _, c, h1, rfl, h2, h3⟩

theorem own_blk_ge {w : World} {base : Nat} {v : Value} {n : Nat} {xs : List Value} (h : w.ownsRow base 5 1 v n xs) : ∀ k, v.ownBlock = some k → base ≤ k := by
  intro k hk
  rcases h.2 with ⟨rfl, _⟩ | ⟨g, cap, cur, rfl, hg, _⟩
  · simp [Value.ownBlock] at hk
  · have : g = k := by simpa [Value.ownBlock] using hk
    omega

/-- A cut of a slice of bytes at its end, in whatever world. -/
theorem run_head (A : Option Addr) (n c : Nat) (hi : Int) (h0 : 0 ≤ hi) (h2 : hi ≤ c) (W : World) :
    (Instr.slice 22 (.slice A n c) none (some (.int .i64 hi)) none).run Try.prog W = .ok (.slice A hi.toNat c) W := by
  obtain ⟨i0, hi0, _, hz1, _⟩ := info_parts info5
  have hel : Try.prog.elem 22 = 5 := by simp [Program.elem, Try.underlying22]
  have hu : Try.prog.underlying 22 = some (.slice (Try.prog.elem 22)) := by rw [hel]; exact Try.underlying22
  rw [run_slice_h W 22 A n c hu .i64 hi h0 h2, hel]
  have ea : A.map (·.add 0) = A := by cases A <;> simp [Addr.add]
  simp [sizeOf, typeInfo, hi0, hz1, sliced, Result.andThen, ea]
theorem run_from (A : Option Addr) (n c : Nat) (lo : Int) (h0 : 0 ≤ lo) (h1 : lo ≤ n) (W : World) :
    (Instr.slice 22 (.slice A n c) (some (.int .i64 lo)) none none).run Try.prog W = .ok (.slice (if c = lo.toNat then A else A.map (·.add lo.toNat)) (n - lo.toNat) (c - lo.toNat)) W := by
  obtain ⟨i0, hi0, _, hz1, _⟩ := info_parts info5
  have hel : Try.prog.elem 22 = 5 := by simp [Program.elem, Try.underlying22]
  have hu : Try.prog.underlying 22 = some (.slice (Try.prog.elem 22)) := by rw [hel]; exact Try.underlying22
  rw [run_slice_l W 22 A n c hu .i64 lo h0 h1, hel]
  simp [sizeOf, typeInfo, hi0, hz1, sliced, Result.andThen]

set_option maxHeartbeats 1000000 in
theorem tight15 (w : World) (all : List Int) (rows : List (List Int)) (A B : Option Addr) (c d : Nat) (hA : RdS w A all) (hB : RdR w B rows) (hc : all.length ≤ c) (hm : all.length ≤ 2000) (hl : ∀ j, j < rows.length → (rows.getD j []).length ≤ 2000) (hn : rows.length ≤ 50)
    (h1 : wantB rows all = true) (h2 : OneMin (wantB rows) all) :
    Calls Try.prog 15 #[.slice A all.length c, .slice B rows.length d] w fun e w' => e = .returned (.bool true) ∧ Below w.heap.size w w' := by
  have HA := Lib.hid hA
  have HB := Lib.hid hB
  have HL := Lib.hid hl
  have H1 := Lib.hid h1
  have H2 := Lib.hid h2
  clear hA hB hl h1 h2
  go_enter Try.func15, Try.ntmps15
  go_wp2
  go_loopw [8] (fun v wr => ∃ k : Nat, v = .int .i64 k ∧ k ≤ all.length ∧ Below w.heap.size w wr) (fun v _ => all.length - (intOf v).toNat)
  case atStart => exact ⟨0, rfl, Nat.zero_le _, Below.refl _ _⟩
  case round =>
    obtain ⟨k, rfl, hk, hbel⟩ := hrel
    have HBEL := Lib.hid hbel
    clear hbel
    by_cases hlt : k < all.length
    · have hcut1 := run_head A all.length c (k : Int) (by omega) (by omega)
      have hcut2 := run_from A all.length c ((k : Int) + 1) (by omega) (by omega)
      have e1 : (k : Int).toNat = k := by omega
      have e2 : ((k : Int) + 1).toNat = k + 1 := by omega
      have ew : IntKind.i64.wrap ((k : Int) + 1) = (k : Int) + 1 := IntWalk.i64_in _ (by omega)
      rw [e1] at hcut1
      rw [e2] at hcut2
      have htail : ∀ W, Below w.heap.size w W → RdS W (if c = k + 1 then A else A.map (·.add (k + 1))) (all.drop (k + 1)) := by
        intro W hW
        have h := (HA.out.below hW).mid (k + 1) (all.length - (k + 1)) c (by omega) hc
        rwa [List.take_of_length_le (by rw [List.length_drop]; omega)] at h
      have hhead : ∀ W, Below w.heap.size w W → RdS W A (all.take k) := fun W hW => (HA.out.below hW).take k
      generalize (if c = k + 1 then A else A.map (·.add (k + 1))) = A2 at hcut2 htail
      have HT := Lib.hid htail
      have HH := Lib.hid hhead
      have hlt1 : (all.take k).length = k := by rw [List.length_take]; omega
      have hlt2 : (all.drop (k + 1)).length = all.length - (k + 1) := by rw [List.length_drop]
      have HL1 := Lib.hid hlt1
      have HL2 := Lib.hid hlt2
      clear e1 e2 htail hhead hlt1 hlt2
      have hb0 : Below w.heap.size w (wr.drew.alloc (.cells #[] 5)) := HBEL.out.drew.alloc HBEL.out.size _
      have hown0 : (wr.drew.alloc (.cells #[] 5)).ownsRow w.heap.size 5 1 (.slice (some ⟨wr.heap.size, 0, none⟩) 0 0) ([] : List Int).length (bys []) :=
        ⟨by simp [bys], .inr ⟨wr.heap.size, 0, #[], rfl, HBEL.out.size, heap_alloc_new wr.drew _, Nat.le_refl _, by simp [maxLen], rfl, rfl⟩⟩
      have HB0 := Lib.hid hb0
      have HO0 := Lib.hid hown0
      have hlen1 : ([] : List Int).length + (all.take k).length ≤ 4000 := by rw [HL1.out]; simp; omega
      have hlen2 : (([] : List Int) ++ all.take k).length + (all.drop (k + 1)).length ≤ 4000 := by rw [List.nil_append, HL1.out, HL2.out]; omega
      have HN1 := Lib.hid hlen1
      have HN2 := Lib.hid hlen2
      have hfalse : wantB rows ((([] : List Int) ++ all.take k) ++ all.drop (k + 1)) = false := H2.out k hlt
      have HFL := Lib.hid hfalse
      have hlen3 : ((([] : List Int) ++ all.take k) ++ all.drop (k + 1)).length ≤ 2000 := by rw [List.length_append, List.nil_append, HL1.out, HL2.out]; omega
      have HN3 := Lib.hid hlen3
      clear hb0 hown0 hlen1 hlen2 hfalse hlen3
      go_wp2
      go_region_law ((first
        | (refine step_append_mz rfl (.tmp 11) (.tmp 14) rfl w.heap.size (.slice (some ⟨wr.heap.size, 0, none⟩) 0 0) [] (by rfl) HO0.out A k c (all.take k) (by rfl) HL1.out (HH.out _ HB0.out) HN1.out HB0.out.size ?_; intro v1 w1 hown1 hg1; have hb1 : Below w.heap.size w w1 := HB0.out.grown hg1 HB0.out.size (own_blk_ge HO0.out))
        | (refine step_append_mz rfl (.tmp 15) (.tmp 19) rfl w.heap.size v1 ([] ++ all.take k) (by rfl) hown1 A2 (all.length - (k + 1)) (c - (k + 1)) (all.drop (k + 1)) (by rfl) HL2.out (HT.out _ hb1) HN2.out hb1.size ?_; intro v2 w2 hown2 hg2; have hb2 : Below w.heap.size w w2 := hb1.grown hg2 hb1.size (own_blk_ge hown1); obtain ⟨A3, n3, c3, rfl, hn3, hr3, hle3⟩ := own_rds_n hown2; have hcall := wanted13 w2 _ rows A3 B c3 d hr3 (HB.out.below hb2) hle3 HN3.out HL.out hn; rw [HFL.out, ← hn3.out] at hcall; have HC := Lib.hid hcall; clear hcall hown2 hr3 hle3)
        | (refine step_call_mz rfl 13 (.tmp 20) (.tmp 21) _ rfl _ _ (by rfl) (by rfl) enters13 (.bool false) HC.out ?_)))
      have HB2 := Lib.hid hb2
      clear hown1 hg1 hg2 hb1 hb2 HC
      go_wp2
      go_roundw
      case rel => exact ⟨k + 1, by go_num, by omega, HB2.out⟩
      case measure => simp [intOf]; omega
    · have hcall := wanted13 wr all rows A B c d (HA.out.below HBEL.out) (HB.out.below HBEL.out) hc hm HL.out hn
      rw [H1.out] at hcall
      have HC := Lib.hid hcall
      clear hcall
      go_wp2_with (go_at_call 13; refine HC.out.mono ?_; rintro e w' ⟨rfl, rfl⟩)
      go_ret
      exact ⟨rfl, HBEL.out⟩

end Go.Proofs.Ytganmbbdmoldeaa.Mz
