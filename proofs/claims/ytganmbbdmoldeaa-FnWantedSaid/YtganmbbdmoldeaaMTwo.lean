/-
  Phase 2 of minimizeBytes: try to remove each single byte.
  Conditions: none beside the ones that each theorem states.
-/
import Derived.Test.YtganmbbdmoldeaaMOne
namespace Go.Proofs.Ytganmbbdmoldeaa.Mz
open Go.RowKit

variable {p : Ads} {w0 : World} {K : List Int → Bool} {b : List Int} {D : List Deferred} {Q : Exit → Act → World → Prop}

theorem Ctx.pos (C : Ctx p w0 K b D Q) {v : List Int} (h : K v = true) : 1 ≤ v.length := by
  cases v with
  | nil => rw [C.none] at h; cases h
  | cons x r => simp

/-- The two copies that make a candidate in the scratch. -/
theorem Mem.made (hp : p.Ok) {w w1 w2 : World} {n : Nat} {best v : List Int} {tc : List Value} (hM : Mem p w0 w n best v tc) {i j : Nat}
    {src src1 : List Value} (hs : src.take i = bys (v.take i)) (hs1 : (src1.drop j).take (v.length - j) = bys (v.drop j)) (hfit : i + (v.length - j) ≤ p.L)
    (o1 : Only p.bt w w1) (b1 : Blk w1 p.bt 5 (splice tc 0 (src.take i))) (o2 : Only p.bt w1 w2)
    (b2 : Blk w2 p.bt 5 (splice (splice tc 0 (src.take i)) i ((src1.drop j).take (v.length - j)))) (hi : i ≤ v.length) :
    ∃ tc2, Mem p w0 w2 n best v tc2 ∧ RdS w2 (some ⟨p.bt, 0, none⟩) (cutOut v i j) := by
  have hle := hM.le
  have hL := hM.tt.2
  rw [hs] at b1 b2
  rw [hs1] at b2
  have l1 : (bys (v.take i)).length = i := by rw [bys_length, List.length_take]; omega
  have l2 : (bys (v.drop j)).length = v.length - j := by rw [bys_length, List.length_drop]
  have hl1 : (splice tc 0 (bys (v.take i))).length = p.L := by rw [length_splice _ _ _ (by omega)]; exact hL
  have hM1 := hM.tmp hp o1 b1 hl1
  have hl2 : (splice (splice tc 0 (bys (v.take i))) i (bys (v.drop j))).length = p.L := by rw [length_splice _ _ _ (by omega)]; exact hl1
  refine ⟨_, hM1.tmp hp o2 b2 hl2, ?_⟩
  rw [tmp_two v _ i j (tmp_head v tc i hi)] at b2
  exact b2.rds

/-- The head of loop 3. -/
def I3 (p : Ads) (w0 : World) (K : List Int → Bool) (b : List Int) (D : List Deferred) (a : Act) (w : World) : Prop :=
  ∃ f i v c tc, a = ⟨frame f, D⟩ ∧ FI p f v.length ∧ f 9 = .int .i64 ((i : Nat) : Int) ∧ Mem p w0 w c v v tc ∧ Reach K p.S b (.p2 i v c)

def mu3 (a : Act) (_ : World) : Nat := lenOf (a.tmps.getD 0 undef) - (intOf (a.tmps.getD 9 undef)).toNat
theorem mu3_frame (f : Nat → Value) (w : World) : mu3 ⟨frame f, D⟩ w = lenOf (f 0) - (intOf (f 9)).toNat := by
  unfold mu3; rw [frame_get _ _ (by decide), frame_get _ _ (by decide)]
theorem mu3_at {f : Nat → Value} {w : World} {n : Nat} {A : Option Addr} {cp : Nat} {i : Int} (h0 : f 0 = .slice A n cp) (h9 : f 9 = .int .i64 i) : mu3 ⟨frame f, D⟩ w = n - i.toNat := by
  rw [mu3_frame, h0, h9]; rfl

theorem round3 (C : Ctx p w0 K b D Q)
    (hout : ∀ (f : Nat → Value) (v : List Int) (c : Nat) (tc : List Value) (w : World), FI p f v.length → Mem p w0 w c v v tc → Reach K p.S b (.p3 0 v c) → Q (.exit 4) ⟨frame f, D⟩ w)
    (a : Act) (w : World) (hI : I3 p w0 K b D a w) :
    body3.wp Try.prog (Exit.then (fun a' w' => I3 p w0 K b D a' w' ∧ mu3 a' w' < mu3 a w) Q) a w := by
  obtain ⟨f, i, v, c, tc, rfl, hF, h9, hM, hR⟩ := hI
  obtain ⟨hK, hvb, hcS⟩ := hR.wtd C.wanted
  have hpos := C.pos hK
  have hle := hM.le
  have hcap := C.ok.cap
  have hlen := C.ok.len
  have htr := C.ok.tries
  rw [mu3_at hF.s0 h9]
  refine wp_seq (wp_seq_n (rg11_ f w i v.length p.cv _ h9 hF.s0 hpos (by omega)) ?_)
  rintro _ _ ⟨f1, rfl, q1, e49, rfl⟩
  have hF1 : FI p f1 v.length := q1.fi hF (by decide)
  have h91 : f1 9 = .int .i64 i := (q1 9 (by decide)).trans h9
  by_cases hlt : i + 1 < v.length
  · refine wp_if_true (by decide) (by rw [e49]; simp [hlt]) (wp_skip ?_)
    show Code.wp Try.prog _ _ _ _
    refine wp_seq (wp_block (wp_seq (wp_seq_n (rg13_ C.st f1 _ c hF1.s2 hM.nn hM.ss (by omega)) ?_)))
    rintro _ _ ⟨f2, rfl, q2, e53, rfl⟩
    have hF2 : FI p f2 v.length := q2.fi hF1 (by decide)
    have h92 : f2 9 = .int .i64 i := (q2 9 (by decide)).trans h91
    by_cases hst : p.S ≤ c
    · refine wp_if_true (by decide) (by rw [e53]; simp [hst]) (wp_ret ?_)
      exact C.ret f2 v c tc _ hM (hR.p2_stop hlt hst)
    · refine wp_if_false (by decide) (by rw [e53]; simp [hst]) (wp_skip ?_)
      show Code.wp Try.prog _ _ _ _
      refine wp_seq_n (rg14_ f2 _ v.length p.cv p.L _ _ p.L hF2.s0 hF2.s6 hpos hle (by omega)) ?_
      rintro _ _ ⟨f3, rfl, q3, e10, rfl⟩
      have hF3 : FI p f3 v.length := q3.fi hF2 (by decide)
      have h93 : f3 9 = .int .i64 i := (q3 9 (by decide)).trans h92
      obtain ⟨full, rest, hbv, hfl, hft⟩ := hM.vv
      have hsl : v.length ≤ (bys full ++ rest).length := by rw [List.length_append, bys_length]; omega
      have hs := src_take full v rest i hft (by omega)
      refine wp_seq_n (rg15_ f3 w p.bt p.bv i v.length (v.length - 1) p.L p.cv tc (bys full ++ rest) e10 hF3.s0 h93 (by omega) (by omega) (by omega) (by omega) (by omega) hM.tt.1 hbv (by rw [hM.tt.2]; omega) (by omega)
        (by rw [hs]; exact bys_one _)) ?_
      rintro _ w1 ⟨f4, rfl, q4, b1, o1⟩
      have hF4 : FI p f4 v.length := q4.fi hF3 (by decide)
      have h94 : f4 9 = .int .i64 i := (q4 9 (by decide)).trans h93
      have e104 : f4 10 = _ := (q4 10 (by decide)).trans e10
      have hbv1 := o1.blk hbv (by have := C.ok.vb; have := C.ok.bn_; have := C.ok.nt; omega)
      have hs1 := src_mid full v rest (i + 1) hft
      have hl1 : (splice tc 0 ((bys full ++ rest).take i)).length = p.L := by rw [length_splice _ _ _ (by rw [List.length_take, hM.tt.2]; omega)]; exact hM.tt.2
      refine wp_seq_n (rg16_ f4 w1 p.bt p.bv i v.length (v.length - 1) p.L p.cv _ (bys full ++ rest) e104 hF4.s0 h94 (by omega) (by omega) (by omega) (by omega) (by omega) (by omega) (by omega) (by omega) b1 hbv1 hsl (by omega)
        (by rw [hs1]; exact bys_one _)) ?_
      rintro _ w2 ⟨f5, rfl, q5, b2, o2⟩
      have hF5 : FI p f5 v.length := q5.fi hF4 (by decide)
      have h95 : f5 9 = .int .i64 i := (q5 9 (by decide)).trans h94
      have e105 : f5 10 = _ := (q5 10 (by decide)).trans e104
      obtain ⟨tc2, hM2, hrd⟩ := hM.made C.ok (i := i) (j := i + 1) hs hs1 (by omega) o1 b1 o2 b2 (by omega)
      have hcl := cutOut_length v i (i + 1) (by omega) (by omega)
      refine wp_seq (wp_seq_n (rg17_ C.tr f5 w2 _ (cutOut v i (i + 1)) v v tc2 (v.length - 1) p.L c hF5.s1 e105 hM2 hrd (by omega) (by omega) (by omega) (hM.byt.cut _ _) (by omega)) ?_)
      rintro _ w3 ⟨f6, rfl, q6, e77, hM3, hk3⟩
      have hF6 : FI p f6 v.length := q6.fi hF5 (by decide)
      have h96 : f6 9 = .int .i64 i := (q6 9 (by decide)).trans h95
      have e106 : f6 10 = _ := (q6 10 (by decide)).trans e105
      cases hKt : K (cutOut v i (i + 1)) with
      | true =>
        refine wp_if_false (by decide) (by rw [e77, hKt]; rfl) (wp_skip ?_)
        show Code.wp Try.prog _ _ _ _
        rw [hKt] at hM3
        obtain ⟨full3, rest3, hbv3, hfl3, hft3⟩ := hM3.vv
        have hs3 := src_mid full3 v rest3 (i + 1) hft3
        refine wp_seq_n (rg18_ f6 w3 p.bv i v.length p.cv (bys full3 ++ rest3) hF6.s0 h96 (by omega) (by omega) (by omega) (by omega) (by omega) hbv3 (by rw [List.length_append, bys_length]; omega)
          (by rw [hs3]; exact bys_one _)) ?_
        rintro _ w4 ⟨f7, rfl, q7, b4, o4⟩
        have hF7 : FI p f7 v.length := q7.fi hF6 (by decide)
        have h97 : f7 9 = .int .i64 i := (q7 9 (by decide)).trans h96
        have e107 : f7 10 = _ := (q7 10 (by decide)).trans e106
        have hM4 := hM3.vcut C.ok o4 (by omega : i ≤ i + 1) (by omega) hfl3 hft3 b4
        refine wp_seq_n (rg19_ f7 w4 v.length p.cv (v.length - 1) p.L _ _ hF7.s0 e107 (by omega) (by omega)) ?_
        rintro _ _ ⟨f8, rfl, q8, e0, rfl⟩
        have hF8 : FI p f8 (cutOut v i (i + 1)).length :=
          ⟨by rw [e0, hcl]; congr 1; omega, (q8 1 (by decide)).trans hF7.s1, (q8 2 (by decide)).trans hF7.s2, (q8 6 (by decide)).trans hF7.s6⟩
        have h98 : f8 9 = .int .i64 i := (q8 9 (by decide)).trans h97
        refine wp_of_normal (rg20_ f8 w4 i (by omega) h98) ?_
        rintro _ _ ⟨f9, rfl, q9, e9, rfl⟩
        have hF9 : FI p f9 (cutOut v i (i + 1)).length := q9.fi hF8 (by decide)
        show Code.wp Try.prog _ _ _ _
        refine wp_of_normal (rg12_ f9 w4 ((i : Int) - 1) (by omega) (by omega) e9) ?_
        rintro _ _ ⟨g, rfl, qg, eg, rfl⟩
        have hFg : FI p g (cutOut v i (i + 1)).length := qg.fi hF9 (by decide)
        have eg' : g 9 = .int .i64 ((i : Nat) : Int) := by rw [eg]; congr 1; omega
        refine ⟨⟨g, i, _, c + 1, tc2, rfl, hFg, eg', hM4, hR.p2_cut hlt (by omega) hKt⟩, ?_⟩
        rw [mu3_at hFg.s0 eg', hcl]
        omega
      | false =>
        refine wp_if_true (by decide) (by rw [e77, hKt]; rfl) (wp_exit ?_)
        rw [hKt] at hM3
        show Code.wp Try.prog _ _ _ _
        refine wp_of_normal (rg12_ f6 w3 (i : Int) (by omega) (by omega) h96) ?_
        rintro _ _ ⟨g, rfl, qg, eg, rfl⟩
        have hFg : FI p g v.length := qg.fi hF6 (by decide)
        have eg' : g 9 = .int .i64 ((i + 1 : Nat) : Int) := by rw [eg]; congr 1
        refine ⟨⟨g, i + 1, v, c + 1, tc2, rfl, hFg, eg', hM3, hR.p2_no hlt (by omega) hKt⟩, ?_⟩
        rw [mu3_at hFg.s0 eg']
        omega
  · refine wp_if_false (by decide) (by rw [e49]; simp [hlt]) (wp_exit ?_)
    exact hout f1 v c tc _ hF1 hM (hR.p3_ hlt)

/-- Phase 2. -/
theorem phase2 (C : Ctx p w0 K b D Q) (f : Nat → Value) (v : List Int) (c : Nat) (tc : List Value) (w : World) (hF : FI p f v.length) (hM : Mem p w0 w c v v tc) (hR : Reach K p.S b (.p2 0 v c))
    (hout : ∀ (f : Nat → Value) (v : List Int) (c : Nat) (tc : List Value) (w : World), FI p f v.length → Mem p w0 w c v v tc → Reach K p.S b (.p3 0 v c) → Q .normal ⟨frame f, D⟩ w) :
    (Code.seq (rg 10) (.block 4 (.loop body3))).wp Try.prog Q ⟨frame f, D⟩ w := by
  refine wp_seq_n (rg10_ f w) ?_
  rintro _ _ ⟨f1, rfl, q1, e9, rfl⟩
  have hF1 : FI p f1 v.length := q1.fi hF (by decide)
  refine wp_block (wp_loop (I3 p w0 K b D) mu3 ⟨f1, 0, v, c, tc, rfl, hF1, e9, hM, hR⟩ ?_)
  intro a1 w1 hI1
  refine round3 (Q := Exit.inBlock 4 Q) ⟨C.ok, C.tr, C.st, C.wanted, C.none, C.len, C.ret⟩ ?_ a1 w1 hI1
  intro g v c tc' w' hFg hMg hRg
  exact hout g v c tc' w' hFg hMg hRg

end Go.Proofs.Ytganmbbdmoldeaa.Mz
