/-
  Phase 1 of minimizeBytes: cut the tail.
  Conditions: none beside the ones that each theorem states.
-/
import Derived.Test.YtganmbbdmoldeaaMRegs
import Derived.Test.YtganmbbdmoldeaaMRegsC
import Derived.Test.YtganmbbdmoldeaaMLem
namespace Go.Proofs.Ytganmbbdmoldeaa.Mz
open Go.RowKit

/-- What the whole walk knows: the blocks, what 'try' and 'shouldStop' do, that b is wanted; and where a return leads. -/
structure Ctx (p : Ads) (w0 : World) (K : List Int → Bool) (b : List Int) (D : List Deferred) (Q : Exit → Act → World → Prop) : Prop where
  ok : p.Ok
  tr : TryC p w0 K
  st : StopC p
  wanted : K b = true
  none : K [] = false
  len : b.length ≤ 2000
  ret : ∀ (f : Nat → Value) (v : List Int) (c : Nat) (tc : List Value) (w : World), Mem p w0 w c v v tc → Reach K p.S b (.stop v) → Q .ret ⟨frame f, D⟩ w

variable {p : Ads} {w0 : World} {K : List Int → Bool} {b : List Int} {D : List Deferred} {Q : Exit → Act → World → Prop}

/-- The head of loop 2. -/
def I2 (p : Ads) (w0 : World) (K : List Int → Bool) (b : List Int) (D : List Deferred) (k : Nat) (a : Act) (w : World) : Prop :=
  ∃ f v c tc, a = ⟨frame f, D⟩ ∧ FI p f v.length ∧ f 7 = .int .i64 k ∧ Mem p w0 w c v v tc ∧ Reach K p.S b (.p1in k v c)

def mu0 (a : Act) (_ : World) : Nat := lenOf (a.tmps.getD 0 undef)
theorem mu0_frame (f : Nat → Value) (w : World) : mu0 ⟨frame f, D⟩ w = lenOf (f 0) := by
  unfold mu0; rw [frame_get _ _ (by decide)]

theorem round2 (C : Ctx p w0 K b D Q) (k : Nat)
    (hout : ∀ (f : Nat → Value) (v : List Int) (c : Nat) (tc : List Value) (w : World), FI p f v.length → f 7 = .int .i64 k → Mem p w0 w c v v tc → Reach K p.S b (.p1 (k / 2) v c) → Q (.exit 2) ⟨frame f, D⟩ w)
    (hret : ∀ (f : Nat → Value) (v : List Int) (c : Nat) (tc : List Value) (w : World), Mem p w0 w c v v tc → Reach K p.S b (.stop v) → Q .ret ⟨frame f, D⟩ w)
    (a : Act) (w : World) (hI : I2 p w0 K b D k a w) :
    body2.wp Try.prog (Exit.then (fun a' w' => I2 p w0 K b D k a' w' ∧ mu0 a' w' < mu0 a w) Q) a w := by
  obtain ⟨f, v, c, tc, rfl, hF, h7, hM, hR⟩ := hI
  obtain ⟨hK, hvb, hcS, hk, hk0⟩ := hR.wtd C.wanted
  have hle := hM.le
  have hcap := C.ok.cap
  have hlen := C.ok.len
  have htr := C.ok.tries
  refine wp_seq (wp_seq_n (rg5_ f w k v.length p.cv _ h7 hF.s0) ?_)
  rintro _ _ ⟨f1, rfl, q1, e31, rfl⟩
  have hF1 : FI p f1 v.length := q1.fi hF (by decide)
  have h71 : f1 7 = .int .i64 k := (q1 7 (by decide)).trans h7
  by_cases hlt : k < v.length
  · refine wp_if_true (by decide) (by rw [e31]; simp [hlt]) (wp_skip ?_)
    show Code.wp Try.prog _ _ _ _
    refine wp_block (wp_seq (wp_seq_n (rg6_ C.st f1 _ c hF1.s2 hM.nn hM.ss (by omega)) ?_))
    rintro _ _ ⟨f2, rfl, q2, e33, rfl⟩
    have hF2 : FI p f2 v.length := q2.fi hF1 (by decide)
    have h72 : f2 7 = .int .i64 k := (q2 7 (by decide)).trans h71
    by_cases hst : p.S ≤ c
    · refine wp_if_true (by decide) (by rw [e33]; simp [hst]) (wp_ret ?_)
      exact hret f2 v c tc _ hM (hR.p1_stop hlt hst)
    · refine wp_if_false (by decide) (by rw [e33]; simp [hst]) (wp_skip ?_)
      show Code.wp Try.prog _ _ _ _
      refine wp_seq_n (rg7_ f2 _ k v.length p.cv _ h72 hF2.s0 (by omega) (by omega) (by omega)) ?_
      rintro _ _ ⟨f3, rfl, q3, e8, rfl⟩
      have hF3 : FI p f3 v.length := q3.fi hF2 (by decide)
      have h73 : f3 7 = .int .i64 k := (q3 7 (by decide)).trans h72
      have htl : (v.take (v.length - k)).length = v.length - k := by rw [List.length_take]; omega
      refine wp_seq (wp_seq_n (rg8_ C.tr f3 _ _ (v.take (v.length - k)) v v tc (v.length - k) p.cv c hF3.s1 e8 hM (hM.rds.take _) htl (by omega) (by omega) (hM.byt.take _) (by omega)) ?_)
      rintro _ w2 ⟨f4, rfl, q4, e43, hM2, hk2⟩
      have hF4 : FI p f4 v.length := q4.fi hF3 (by decide)
      have h74 : f4 7 = .int .i64 k := (q4 7 (by decide)).trans h73
      have h84 : f4 8 = _ := (q4 8 (by decide)).trans e8
      cases hKt : K (v.take (v.length - k)) with
      | true =>
        refine wp_if_false (by decide) (by rw [e43, hKt]; rfl) (wp_skip ?_)
        show Code.wp Try.prog _ _ _ _
        rw [hKt] at hM2
        refine wp_of_normal (rg9_ f4 _ _ _ _ h84) ?_
        rintro _ _ ⟨f5, rfl, q5, e0, rfl⟩
        have hM3 := hM2.cut (v.length - k)
        refine ⟨⟨f5, v.take (v.length - k), c + 1, tc, rfl, ?_, (q5 7 (by decide)).trans h74, hM3, hR.p1_cut hlt (by omega) hKt⟩, ?_⟩
        · exact ⟨by rw [htl]; exact e0, (q5 1 (by decide)).trans hF4.s1, (q5 2 (by decide)).trans hF4.s2, (q5 6 (by decide)).trans hF4.s6⟩
        · rw [mu0_frame, mu0_frame, e0, hF.s0]
          show v.length - k < v.length
          omega
      | false =>
        refine wp_if_true (by decide) (by rw [e43, hKt]; rfl) (wp_exit ?_)
        rw [hKt] at hM2
        exact hout f4 v (c + 1) tc w2 hF4 h74 hM2 (hR.p1_no hlt (by omega) hKt)
  · refine wp_if_false (by decide) (by rw [e31]; simp [hlt]) (wp_exit ?_)
    exact hout f1 v c tc _ hF1 h71 hM (hR.p1_out hlt)

/-- The head of loop 1. -/
def I1 (p : Ads) (w0 : World) (K : List Int → Bool) (b : List Int) (D : List Deferred) (a : Act) (w : World) : Prop :=
  ∃ f k v c tc, a = ⟨frame f, D⟩ ∧ FI p f v.length ∧ f 7 = .int .i64 ((k : Nat) : Int) ∧ Mem p w0 w c v v tc ∧ Reach K p.S b (.p1 k v c)

def mu7 (a : Act) (_ : World) : Nat := (intOf (a.tmps.getD 7 undef)).toNat
theorem mu7_frame (f : Nat → Value) (w : World) : mu7 ⟨frame f, D⟩ w = (intOf (f 7)).toNat := by
  unfold mu7; rw [frame_get _ _ (by decide)]

theorem round1 (C : Ctx p w0 K b D Q)
    (hout : ∀ (f : Nat → Value) (v : List Int) (c : Nat) (tc : List Value) (w : World), FI p f v.length → Mem p w0 w c v v tc → Reach K p.S b (.p2 0 v c) → Q (.exit 0) ⟨frame f, D⟩ w)
    (a : Act) (w : World) (hI : I1 p w0 K b D a w) :
    body1.wp Try.prog (Exit.then (fun a' w' => I1 p w0 K b D a' w' ∧ mu7 a' w' < mu7 a w) Q) a w := by
  obtain ⟨f, k, v, c, tc, rfl, hF, h7, hM, hR⟩ := hI
  obtain ⟨hK, hvb, hcS, hk⟩ := hR.wtd C.wanted
  refine wp_seq (wp_seq_n (rg3_ f w k h7) ?_)
  rintro _ _ ⟨f1, rfl, q1, e25, rfl⟩
  have hF1 : FI p f1 v.length := q1.fi hF (by decide)
  have h71 : f1 7 = .int .i64 k := (q1 7 (by decide)).trans h7
  by_cases hk0 : k = 0
  · refine wp_if_false (by decide) (by rw [e25]; simp [hk0]) (wp_exit ?_)
    subst hk0
    exact hout f1 v c tc _ hF1 hM hR.p2_
  · refine wp_if_true (by decide) (by rw [e25]; simp [hk0]) (wp_skip ?_)
    show Code.wp Try.prog _ _ _ _
    have hnext : ∀ (f : Nat → Value) (v' : List Int) (c : Nat) (tc : List Value) (w' : World), FI p f v'.length → f 7 = .int .i64 k → Mem p w0 w' c v' v' tc → Reach K p.S b (.p1 (k / 2) v' c) →
        (rg 4).wp Try.prog (Exit.then (fun a' w' => I1 p w0 K b D a' w' ∧ mu7 a' w' < mu7 ⟨frame f1, D⟩ w) Q) ⟨frame f, D⟩ w' := by
      intro g v' c' tc' w' hFg h7g hMg hRg
      refine wp_of_normal (rg4_ g w' k hk h7g) ?_
      rintro _ _ ⟨g1, rfl, q, e7, rfl⟩
      refine ⟨⟨g1, k / 2, v', c', tc', rfl, q.fi hFg (by decide), e7, hMg, hRg⟩, ?_⟩
      rw [mu7_frame, mu7_frame, e7, h71]
      show (((k / 2 : Nat) : Int)).toNat < ((k : Nat) : Int).toNat
      omega
    have hmu : mu7 ⟨frame f, D⟩ w = mu7 ⟨frame f1, D⟩ w := by rw [mu7_frame, mu7_frame, h7, h71]
    rw [hmu]
    refine wp_seq (wp_block (wp_block ?_))
    refine wp_loop (I2 p w0 K b D k) mu0 ⟨f1, v, c, tc, rfl, hF1, h71, hM, hR.p1_in hk0⟩ ?_
    intro a2 w2 hI2
    refine round2 (Q := Exit.inBlock 2 (Exit.inBlock 1 (Exit.then _ _))) ?_ k ?_ ?_ a2 w2 hI2
    · exact ⟨C.ok, C.tr, C.st, C.wanted, C.none, C.len, C.ret⟩
    · intro g v' c' tc' w' hFg h7g hMg hRg
      exact hnext g v' c' tc' w' hFg h7g hMg hRg
    · exact C.ret

/-- Phase 1. -/
theorem phase1 (C : Ctx p w0 K b D Q) (f : Nat → Value) (tc : List Value) (w : World) (hF : FI p f b.length) (hM : Mem p w0 w 0 b b tc)
    (hout : ∀ (f : Nat → Value) (v : List Int) (c : Nat) (tc : List Value) (w : World), FI p f v.length → Mem p w0 w c v v tc → Reach K p.S b (.p2 0 v c) → Q .normal ⟨frame f, D⟩ w) :
    (Code.seq (rg 2) (.block 0 (.loop body1))).wp Try.prog Q ⟨frame f, D⟩ w := by
  refine wp_seq_n (rg2_ f w) ?_
  rintro _ _ ⟨f1, rfl, q1, e7, rfl⟩
  have hF1 : FI p f1 b.length := q1.fi hF (by decide)
  refine wp_block (wp_loop (I1 p w0 K b D) mu7 ⟨f1, 1024, b, 0, tc, rfl, hF1, e7, hM, .start⟩ ?_)
  intro a1 w1 hI1
  refine round1 (Q := Exit.inBlock 0 Q) ⟨C.ok, C.tr, C.st, C.wanted, C.none, C.len, C.ret⟩ ?_ a1 w1 hI1
  intro g v c tc' w' hFg hMg hRg
  exact hout g v c tc' w' hFg hMg hRg

end Go.Proofs.Ytganmbbdmoldeaa.Mz
