/-
  Phase 4 of minimizeBytes: try to replace each byte with a printable character.
  Conditions: none beside the ones that each theorem states.
-/
import Derived.Test.YtganmbbdmoldeaaMThree
import Derived.WalkKit
import Derived.WalkSpells
import Derived.WalkLawsBesides
import Derived.Lib.SlBytesConst
namespace Go.Proofs.Ytganmbbdmoldeaa.Mz
open Go.RowKit

section
set_option linter.unusedSimpArgs false
attribute [local go_sem] frame_get frame_at frame_set upd_same upd_ne
variable {D : List Deferred}

set_option maxRecDepth 100000 in
set_option maxHeartbeats 800000 in
theorem rg35_ (f : Nat → Value) (w : World) :
    (rg 35).wp Try.prog (onNormal fun a' w' => ∃ f', a' = ⟨frame f', D⟩ ∧ Eqv [14, 147, 146] f f' ∧ f' 14 = .slice (some ⟨w.heap.size, 0, none⟩) 32 32 ∧ w.alloc (.cells (bys chars).toArray 5 (32, 33)) = w') ⟨frame f, D⟩ w := by
  have kc := fun (w : World) (C : Array Value) (n c : Nat) => Lib.run_convert_bytes_const (P := Try.prog) w 22 5 C n c Try.underlying22 Try.underlying5
  conv => arg 2; whnf
  go_wp
  exact ⟨_, rfl, by repeat (first | exact Eqv.refl _ | apply Eqv.step), upd_same _ _ _, rfl⟩
end

variable {p : Ads} {w0 : World} {K : List Int → Bool} {b : List Int} {D : List Deferred} {Q : Exit → Act → World → Prop}

/-- What the frame holds besides at the heads of loops 6 and 7. -/
structure F4 (p : Ads) (f : Nat → Value) (n bc i : Nat) : Prop where
  s14 : f 14 = .slice (some ⟨bc, 0, none⟩) 32 32
  s148 : f 148 = .slice (some ⟨p.bv, 0, none⟩) n p.cv
  s149 : f 149 = .int .i64 (n : Int)
  s150 : f 150 = .int .i64 (i : Int)
theorem Eqv.f4 {ex : List Nat} {f f' : Nat → Value} {n bc i : Nat} (h : Eqv ex f f') (hF : F4 p f n bc i) (hx : (14 ∉ ex ∧ 148 ∉ ex ∧ 149 ∉ ex ∧ 150 ∉ ex)) : F4 p f' n bc i :=
  ⟨(h 14 hx.1).trans hF.s14, (h 148 hx.2.1).trans hF.s148, (h 149 hx.2.2.1).trans hF.s149, (h 150 hx.2.2.2).trans hF.s150⟩

/-- The block of the characters. -/
structure CB (p : Ads) (w : World) (bc : Nat) : Prop where
  blk : w.heap[bc]? = some (.cells (bys chars).toArray 5 (32, 33))
  nn : bc ≠ p.bn
  nb : bc ≠ p.bb
  nv : bc ≠ p.bv
theorem CB.kept {w w' : World} {bc : Nat} (h : CB p w bc) (hk : Kept p w w') : CB p w' bc := ⟨(hk.2 bc (Array.getElem?_eq_some_iff.1 h.blk).1 h.nn h.nb).trans h.blk, h.nn, h.nb, h.nv⟩
theorem CB.set_ {w : World} {bc : Nat} (h : CB p w bc) (i : Nat) (u : Value) : CB p (w.setCell ⟨p.bv, i, none⟩ u) bc := ⟨(Below.heap_setCell w _ u bc h.nv).trans h.blk, h.nn, h.nb, h.nv⟩
theorem CB.cell {w : World} {bc : Nat} (h : CB p w bc) {q : Nat} (hq : q < 32) : w.cell? ⟨bc, q, none⟩ = some (.int .u8 (chars.getD q 0)) := by
  have hc := cell_of_row w bc q (bys chars).toArray 5 (32, 33) h.blk
  rw [List.getElem?_toArray] at hc
  rw [hc, bys, List.getElem?_map, List.getElem?_eq_getElem (by rw [chars_length]; exact hq), List.getD_eq_getElem?_getD, List.getElem?_eq_getElem (by rw [chars_length]; exact hq)]
  rfl

/-- The head of loop 7. -/
def I7 (p : Ads) (w0 : World) (K : List Int → Bool) (b : List Int) (D : List Deferred) (i n bc : Nat) (a : Act) (w : World) : Prop :=
  ∃ f q v c tc, a = ⟨frame f, D⟩ ∧ FI p f v.length ∧ F4 p f n bc i ∧ f 15 = .int .i64 ((i : Nat) : Int) ∧ f 16 = .int .u8 (v.getD i 0) ∧ f 157 = .slice (some ⟨bc, 0, none⟩) 32 32 ∧ f 158 = .int .i64 ((32 : Nat) : Int) ∧ f 159 = .int .i64 ((q : Nat) : Int) ∧
    Mem p w0 w c v v tc ∧ CB p w bc ∧ v.length = n ∧ Reach K p.S b (.p4in i q v c)

def mu7q (a : Act) (_ : World) : Nat := 32 - (intOf (a.tmps.getD 159 undef)).toNat
theorem mu7q_at {f : Nat → Value} {w : World} {q : Nat} (h : f 159 = .int .i64 (q : Int)) : mu7q ⟨frame f, D⟩ w = 32 - q := by
  unfold mu7q; rw [frame_get _ _ (by decide), h]; rfl

theorem set_back (v : List Int) (i : Nat) (x : Int) : (v.set i x).set i (v.getD i 0) = v := by
  rw [List.set_set]
  apply List.ext_getElem?
  intro j
  rw [List.getElem?_set]
  by_cases hij : i = j
  · subst hij
    by_cases hi : i < v.length
    · simp [hi]
    · simp [hi]
  · simp [hij]

theorem round7 (C : Ctx p w0 K b D Q) (i n bc : Nat)
    (hout : ∀ (f : Nat → Value) (v : List Int) (c : Nat) (tc : List Value) (w : World), FI p f v.length → F4 p f n bc i → Mem p w0 w c v v tc → CB p w bc → v.length = n → Reach K p.S b (.p4 (i + 1) v c) → Q (.exit 12) ⟨frame f, D⟩ w)
    (a : Act) (w : World) (hI : I7 p w0 K b D i n bc a w) :
    body7.wp Try.prog (Exit.then (fun a' w' => I7 p w0 K b D i n bc a' w' ∧ mu7q a' w' < mu7q a w) Q) a w := by
  obtain ⟨f, q, v, c, tc, rfl, hF, h4, h15, h16, h157, h158, h159, hM, hB, hvn, hR⟩ := hI
  obtain ⟨hK, hvb, hcS, hiv, hq32⟩ := hR.wtd C.wanted
  have hle := hM.le
  have hcap := C.ok.cap
  have hlen := C.ok.len
  have htr := C.ok.tries
  rw [mu7q_at h159]
  refine wp_seq_n (rg41_ f w q 32 h159 h158) ?_
  rintro _ _ ⟨f1, rfl, q1, e160, rfl⟩
  have hF1 : FI p f1 v.length := q1.fi hF (by decide)
  have h41 : F4 p f1 n bc i := q1.f4 h4 (by decide)
  by_cases hlt : q < 32
  · refine wp_seq (wp_if_true (by decide) (by rw [e160]; simp [hlt]) (wp_skip ?_))
    show Code.wp Try.prog _ _ _ _
    refine wp_seq (wp_block (wp_seq_n (rg42_ f1 w q 32 32 bc _ ((q1 159 (by decide)).trans h159) ((q1 157 (by decide)).trans h157) hlt (hB.cell hlt)) ?_))
    rintro _ _ ⟨f2, rfl, q2, e18, rfl⟩
    have hF2 : FI p f2 v.length := q2.fi hF1 (by decide)
    have h42 : F4 p f2 n bc i := q2.f4 h41 (by decide)
    have h152 : f2 15 = .int .i64 i := (q2 15 (by decide)).trans ((q1 15 (by decide)).trans h15)
    refine wp_seq_n (rg43_ f2 w i v.length p.cv p.bv _ _ hF2.s0 h152 e18 hiv (hM.cell hiv) (hM.free i)) ?_
    rintro _ w1 ⟨f3, rfl, q3, rfl⟩
    have hF3 : FI p f3 v.length := q3.fi hF2 (by decide)
    have h43 : F4 p f3 n bc i := q3.f4 h42 (by decide)
    have hM1 := hM.vset C.ok i (chars_byte q)
    have hB1 := hB.set_ i (.int .u8 (chars.getD q 0))
    have hsl : (v.set i (chars.getD q 0)).length = v.length := List.length_set
    refine wp_seq (wp_seq_n (rg44_ C.tr f3 _ _ (v.set i (chars.getD q 0)) v _ tc v.length p.cv c hF3.s1 hF3.s0 hM1 hM1.rds hsl (by omega) (by omega) hM1.byt (by omega)) ?_)
    rintro _ w2 ⟨f4, rfl, q4, e169, hM2, hk2⟩
    have hF4 : FI p f4 v.length := q4.fi hF3 (by decide)
    have h44 : F4 p f4 n bc i := q4.f4 h43 (by decide)
    have hB2 := hB1.kept hk2
    cases hKt : K (v.set i (chars.getD q 0)) with
    | true =>
      refine wp_if_true (by decide) (by rw [e169, hKt]) (wp_exit ?_)
      rw [hKt] at hM2
      exact hout f4 (v.set i (chars.getD q 0)) (c + 1) tc w2 (by rw [hsl]; exact hF4) h44 hM2 hB2 (by rw [hsl]; exact hvn) (hR.p4_yes hlt hKt)
    | false =>
      refine wp_if_false (by decide) (by rw [e169, hKt]) (wp_skip ?_)
      show Code.wp Try.prog _ _ _ _
      rw [hKt] at hM2
      have h154 : f4 15 = .int .i64 i := (q4 15 (by decide)).trans ((q3 15 (by decide)).trans h152)
      have h164 : f4 16 = .int .u8 (v.getD i 0) := (q4 16 (by decide)).trans ((q3 16 (by decide)).trans ((q2 16 (by decide)).trans ((q1 16 (by decide)).trans h16)))
      refine wp_of_normal (rg45_ f4 w2 i v.length p.cv p.bv _ _ hF4.s0 h154 h164 hiv (hM2.cell (by rw [hsl]; exact hiv)) (hM2.free i)) ?_
      rintro _ w3 ⟨f5, rfl, q5, rfl⟩
      have hF5 : FI p f5 v.length := q5.fi hF4 (by decide)
      have h45 : F4 p f5 n bc i := q5.f4 h44 (by decide)
      have hx : 0 ≤ v.getD i 0 ∧ v.getD i 0 ≤ 255 := by
        rw [List.getD_eq_getElem?_getD, List.getElem?_eq_getElem hiv]
        exact hM.byt _ (List.getElem_mem hiv)
      have hM3 := hM2.vset C.ok i hx
      rw [set_back] at hM3
      have hB3 := hB2.set_ i (.int .u8 (v.getD i 0))
      show Code.wp Try.prog _ _ _ _
      have h1595 : f5 159 = .int .i64 q := (q5 159 (by decide)).trans ((q4 159 (by decide)).trans ((q3 159 (by decide)).trans ((q2 159 (by decide)).trans ((q1 159 (by decide)).trans h159))))
      refine wp_of_normal (rg46_ f5 _ q (by omega) h1595) ?_
      rintro _ _ ⟨g, rfl, qg, eg, rfl⟩
      have hFg : FI p g v.length := qg.fi hF5 (by decide)
      have h157g : g 157 = .slice (some ⟨bc, 0, none⟩) 32 32 := (qg 157 (by decide)).trans ((q5 157 (by decide)).trans ((q4 157 (by decide)).trans ((q3 157 (by decide)).trans ((q2 157 (by decide)).trans ((q1 157 (by decide)).trans h157)))))
      have h158g : g 158 = .int .i64 ((32 : Nat) : Int) := (qg 158 (by decide)).trans ((q5 158 (by decide)).trans ((q4 158 (by decide)).trans ((q3 158 (by decide)).trans ((q2 158 (by decide)).trans ((q1 158 (by decide)).trans h158)))))
      refine ⟨⟨g, q + 1, v, c + 1, tc, rfl, hFg, qg.f4 h45 (by decide), (qg 15 (by decide)).trans ((q5 15 (by decide)).trans h154), (qg 16 (by decide)).trans ((q5 16 (by decide)).trans h164), h157g, h158g, eg, hM3, hB3, hvn, hR.p4_no hlt hKt⟩, ?_⟩
      rw [mu7q_at eg]
      omega
  · refine wp_seq (wp_if_false (by decide) (by rw [e160]; simp [hlt]) (wp_exit ?_))
    exact hout f1 v c tc _ hF1 h41 hM hB hvn (hR.p4_out hlt)

/-- The head of loop 6. -/
def I6 (p : Ads) (w0 : World) (K : List Int → Bool) (b : List Int) (D : List Deferred) (n bc : Nat) (a : Act) (w : World) : Prop :=
  ∃ f i v c tc, a = ⟨frame f, D⟩ ∧ FI p f v.length ∧ F4 p f n bc i ∧ Mem p w0 w c v v tc ∧ CB p w bc ∧ v.length = n ∧ i ≤ n ∧ Reach K p.S b (.p4 i v c)

def mu6 (n : Nat) (a : Act) (_ : World) : Nat := n - (intOf (a.tmps.getD 150 undef)).toNat
theorem mu6_at {f : Nat → Value} {w : World} {n i : Nat} (h : f 150 = .int .i64 (i : Int)) : mu6 n ⟨frame f, D⟩ w = n - i := by
  unfold mu6; rw [frame_get _ _ (by decide), h]; rfl

theorem round6 (C : Ctx p w0 K b D Q) (n bc : Nat)
    (hout : ∀ (f : Nat → Value) (v : List Int) (c : Nat) (tc : List Value) (w : World), Mem p w0 w c v v tc → Reach K p.S b (.stop v) → Q (.exit 10) ⟨frame f, D⟩ w)
    (a : Act) (w : World) (hI : I6 p w0 K b D n bc a w) :
    body6.wp Try.prog (Exit.then (fun a' w' => I6 p w0 K b D n bc a' w' ∧ mu6 n a' w' < mu6 n a w) Q) a w := by
  obtain ⟨f, i, v, c, tc, rfl, hF, h4, hM, hB, hvn, hin, hR⟩ := hI
  obtain ⟨hK, hvb, hcS⟩ := hR.wtd C.wanted
  have hle := hM.le
  have hcap := C.ok.cap
  have hlen := C.ok.len
  have htr := C.ok.tries
  rw [mu6_at h4.s150]
  refine wp_seq_n (rg37_ f w i n h4.s150 h4.s149) ?_
  rintro _ _ ⟨f1, rfl, q1, e151, rfl⟩
  have hF1 : FI p f1 v.length := q1.fi hF (by decide)
  have h41 : F4 p f1 n bc i := q1.f4 h4 (by decide)
  by_cases hlt : i < n
  · refine wp_seq (wp_if_true (by decide) (by rw [e151]; simp [hlt]) (wp_skip ?_))
    show Code.wp Try.prog _ _ _ _
    refine wp_seq (wp_block (wp_seq_n (rg38_ f1 w i n p.cv p.bv _ h41.s150 h41.s148 hlt (hM.cell (by omega))) ?_))
    rintro _ _ ⟨f2, rfl, q2, e16, e15, rfl⟩
    have hF2 : FI p f2 v.length := q2.fi hF1 (by decide)
    have h42 : F4 p f2 n bc i := q2.f4 h41 (by decide)
    refine wp_seq (wp_seq_n (rg39_ C.st f2 _ c hF2.s2 hM.nn hM.ss (by omega)) ?_)
    rintro _ _ ⟨f3, rfl, q3, e156, rfl⟩
    have hF3 : FI p f3 v.length := q3.fi hF2 (by decide)
    have h43 : F4 p f3 n bc i := q3.f4 h42 (by decide)
    by_cases hst : p.S ≤ c
    · refine wp_if_true (by decide) (by rw [e156]; simp [hst]) (wp_ret ?_)
      exact C.ret f3 v c tc _ hM (hR.p4_stop (by omega) hst)
    · refine wp_if_false (by decide) (by rw [e156]; simp [hst]) (wp_skip ?_)
      show Code.wp Try.prog _ _ _ _
      refine wp_seq_n (rg40_ f3 w 32 32 _ h43.s14) ?_
      rintro _ _ ⟨f4, rfl, q4, e159, e158, e157, rfl⟩
      have hF4 : FI p f4 v.length := q4.fi hF3 (by decide)
      have h44 : F4 p f4 n bc i := q4.f4 h43 (by decide)
      have h154 : f4 15 = .int .i64 i := (q4 15 (by decide)).trans ((q3 15 (by decide)).trans e15)
      have h164 : f4 16 = .int .u8 (v.getD i 0) := (q4 16 (by decide)).trans ((q3 16 (by decide)).trans e16)
      refine wp_block (wp_loop (I7 p w0 K b D i n bc) mu7q ⟨f4, 0, v, c, tc, rfl, hF4, h44, h154, h164, e157, e158, e159, hM, hB, hvn, hR.p4_in (by omega) (by omega)⟩ ?_)
      intro a2 w2 hI7
      refine round7 (Q := Exit.inBlock 12 (Exit.inBlock 11 (Exit.then _ _))) ?_ i n bc ?_ a2 w2 hI7
      · exact ⟨C.ok, C.tr, C.st, C.wanted, C.none, C.len, C.ret⟩
      · intro g v' c' tc' w' hFg h4g hMg hBg hvg hRg
        show Code.wp Try.prog _ _ _ _
        have hle' := hMg.le
        refine wp_of_normal (rg47_ g w' i (by omega) h4g.s150) ?_
        rintro _ _ ⟨g1, rfl, qg, e150, rfl⟩
        have hFg1 : FI p g1 v'.length := qg.fi hFg (by decide)
        refine ⟨⟨g1, i + 1, v', c', tc', rfl, hFg1, ⟨(qg 14 (by decide)).trans h4g.s14, (qg 148 (by decide)).trans h4g.s148, (qg 149 (by decide)).trans h4g.s149, e150⟩, hMg, hBg, hvg, by omega, hRg⟩, ?_⟩
        rw [mu6_at e150]
        omega
  · refine wp_seq (wp_if_false (by decide) (by rw [e151]; simp [hlt]) (wp_exit ?_))
    exact hout f1 v c tc _ hM (hR.done (by omega))

theorem Mem.alloc {w : World} {n : Nat} {best v : List Int} {tc : List Value} (h : Mem p w0 w n best v tc) (o : Obj) : Mem p w0 (w.alloc o) n best v tc := by
  refine ⟨h.below.alloc h.below.size o, h.base, h.nn.alloc o, h.kk.alloc o, h.ss.alloc o, ?_, ⟨h.tt.1.alloc o, h.tt.2⟩, h.be.move fun k hk _ => Below.heap_alloc w o k hk, h.byt⟩
  obtain ⟨full, rest, h1, h2, h3⟩ := h.vv
  exact ⟨full, rest, h1.alloc o, h2, h3⟩

/-- Phase 4. -/
theorem phase4 (C : Ctx p w0 K b D Q) (f : Nat → Value) (v : List Int) (c : Nat) (tc : List Value) (w : World) (hF : FI p f v.length) (hM : Mem p w0 w c v v tc) (hR : Reach K p.S b (.p4 0 v c))
    (hout : ∀ (f : Nat → Value) (v : List Int) (c : Nat) (tc : List Value) (w : World), Mem p w0 w c v v tc → Reach K p.S b (.stop v) → Q .normal ⟨frame f, D⟩ w) :
    (Code.seq (rg 35) (.seq (rg 36) (.block 10 (.loop body6)))).wp Try.prog Q ⟨frame f, D⟩ w := by
  refine wp_seq_n (rg35_ f w) ?_
  rintro _ _ ⟨f1, rfl, q1, e14, rfl⟩
  have hF1 : FI p f1 v.length := q1.fi hF (by decide)
  refine wp_seq_n (rg36_ f1 _ _ _ _ hF1.s0) ?_
  rintro _ _ ⟨f2, rfl, q2, e150, e149, e148, rfl⟩
  have hF2 : FI p f2 v.length := q2.fi hF1 (by decide)
  have hB : CB p (w.alloc (.cells (bys chars).toArray 5 (32, 33))) w.heap.size := by
    have h1 := hM.nn.lt
    obtain ⟨_, _, _, hbb, _⟩ := hM.be
    have h2 := hbb.lt
    obtain ⟨_, _, hbv, _⟩ := hM.vv
    have h3 := hbv.lt
    exact ⟨heap_alloc_new w _, by omega, by omega, by omega⟩
  refine wp_block (wp_loop (I6 p w0 K b D v.length w.heap.size) (mu6 v.length) ⟨f2, 0, v, c, tc, rfl, hF2, ⟨(q2 14 (by decide)).trans e14, e148, e149, e150⟩, hM.alloc _, hB, rfl, Nat.zero_le _, hR⟩ ?_)
  intro a1 w1 hI1
  refine round6 (Q := Exit.inBlock 10 Q) ⟨C.ok, C.tr, C.st, C.wanted, C.none, C.len, C.ret⟩ _ _ ?_ a1 w1 hI1
  intro g v c tc' w' hMg hRg
  exact hout g v c tc' w' hMg hRg

end Go.Proofs.Ytganmbbdmoldeaa.Mz
