/-
  Phase 3 of minimizeBytes: try to remove each possible subset of bytes.
  Conditions: none beside the ones that each theorem states.
-/
import Derived.Test.YtganmbbdmoldeaaMTwo
namespace Go.Proofs.Ytganmbbdmoldeaa.Mz
open Go.RowKit

variable {p : Ads} {w0 : World} {K : List Int → Bool} {b : List Int} {D : List Deferred} {Q : Exit → Act → World → Prop}

theorem cutOut_take_i (v : List Int) (i j : Nat) (hi : i ≤ v.length) : (cutOut v i j).take i = v.take i := by
  have : (v.take i).length = i := by rw [List.length_take]; omega
  unfold cutOut
  rw [List.take_append_of_le_length (by omega), List.take_of_length_le (by omega)]

/-- The head of loop 5. -/
def I5 (p : Ads) (w0 : World) (K : List Int → Bool) (b : List Int) (D : List Deferred) (i n0 : Nat) (a : Act) (w : World) : Prop :=
  ∃ f j v c tc, a = ⟨frame f, D⟩ ∧ FI p f v.length ∧ f 11 = .int .i64 ((i : Nat) : Int) ∧ f 12 = .int .i64 ((j : Nat) : Int) ∧ Mem p w0 w c v v tc ∧ tc.take i = bys (v.take i) ∧ v.length ≤ n0 ∧ Reach K p.S b (.p3in i j v c)

def mu5 (a : Act) (_ : World) : Nat := lenOf (a.tmps.getD 0 undef) * 4096 + (intOf (a.tmps.getD 12 undef)).toNat
theorem mu5_at {f : Nat → Value} {w : World} {n : Nat} {A : Option Addr} {cp : Nat} {j : Nat} (h0 : f 0 = .slice A n cp) (h12 : f 12 = .int .i64 (j : Int)) : mu5 ⟨frame f, D⟩ w = n * 4096 + j := by
  unfold mu5; rw [frame_get _ _ (by decide), frame_get _ _ (by decide), h0, h12]; rfl

theorem round5 (C : Ctx p w0 K b D Q) (i n0 : Nat) (hi0 : i + 1 ≤ p.L)
    (hout : ∀ (f : Nat → Value) (v : List Int) (c : Nat) (tc : List Value) (w : World), FI p f v.length → f 11 = .int .i64 ((i : Nat) : Int) → Mem p w0 w c v v tc → v.length ≤ n0 → Reach K p.S b (.p3 (i + 1) v c) → Q (.exit 8) ⟨frame f, D⟩ w)
    (a : Act) (w : World) (hI : I5 p w0 K b D i n0 a w) :
    body5.wp Try.prog (Exit.then (fun a' w' => I5 p w0 K b D i n0 a' w' ∧ mu5 a' w' < mu5 a w) Q) a w := by
  obtain ⟨f, j, v, c, tc, rfl, hF, h11, h12, hM, hT, hn0, hR⟩ := hI
  obtain ⟨hK, hvb, hcS, hjl, hij⟩ := hR.wtd C.wanted
  have hpos := C.pos hK
  have hle := hM.le
  have hcap := C.ok.cap
  have hlen := C.ok.len
  have htr := C.ok.tries
  rw [mu5_at hF.s0 h12]
  refine wp_seq (wp_seq_n (rg26_ f w i j h12 h11 (by omega) (by omega)) ?_)
  rintro _ _ ⟨f1, rfl, q1, e109, rfl⟩
  have hF1 : FI p f1 v.length := q1.fi hF (by decide)
  have h111 : f1 11 = .int .i64 i := (q1 11 (by decide)).trans h11
  have h121 : f1 12 = .int .i64 j := (q1 12 (by decide)).trans h12
  by_cases hlt : i + 1 < j
  · have hin : i < v.length := by omega
    refine wp_if_true (by decide) (by rw [e109]; simp [hlt]) (wp_skip ?_)
    show Code.wp Try.prog _ _ _ _
    refine wp_seq (wp_block (wp_seq (wp_seq_n (rg28_ C.st f1 _ c hF1.s2 hM.nn hM.ss (by omega)) ?_)))
    rintro _ _ ⟨f2, rfl, q2, e113, rfl⟩
    have hF2 : FI p f2 v.length := q2.fi hF1 (by decide)
    have h112 : f2 11 = .int .i64 i := (q2 11 (by decide)).trans h111
    have h122 : f2 12 = .int .i64 j := (q2 12 (by decide)).trans h121
    by_cases hst : p.S ≤ c
    · refine wp_if_true (by decide) (by rw [e113]; simp [hst]) (wp_ret ?_)
      exact C.ret f2 v c tc _ hM (hR.p3_stop hlt hst)
    · refine wp_if_false (by decide) (by rw [e113]; simp [hst]) (wp_skip ?_)
      show Code.wp Try.prog _ _ _ _
      refine wp_seq_n (rg29_ f2 _ i j v.length p.cv p.L p.L _ _ hF2.s0 hF2.s6 h122 h112 hjl (by omega) (by omega) (by omega)) ?_
      rintro _ _ ⟨f3, rfl, q3, e13, rfl⟩
      have hF3 : FI p f3 v.length := q3.fi hF2 (by decide)
      have h113 : f3 11 = .int .i64 i := (q3 11 (by decide)).trans h112
      have h123 : f3 12 = .int .i64 j := (q3 12 (by decide)).trans h122
      obtain ⟨full, rest, hbv, hfl, hft⟩ := hM.vv
      have hsl : v.length ≤ (bys full ++ rest).length := by rw [List.length_append, bys_length]; omega
      have hs1 := src_mid full v rest j hft
      refine wp_seq_n (rg30_ f3 w p.bt p.bv i j v.length (v.length - j + i) p.L p.cv tc (bys full ++ rest) e13 hF3.s0 h113 h123 (by omega) (by omega) (by omega) (by omega) (by omega) (by omega) (by omega) (by omega) hM.tt.1 hbv hsl (by rw [hM.tt.2]; omega)
        (by rw [hs1]; exact bys_one _)) ?_
      rintro _ w2 ⟨f5, rfl, q5, b2, o2⟩
      have hF5 : FI p f5 v.length := q5.fi hF3 (by decide)
      have h115 : f5 11 = .int .i64 i := (q5 11 (by decide)).trans h113
      have h125 : f5 12 = .int .i64 j := (q5 12 (by decide)).trans h123
      have e135 : f5 13 = _ := (q5 13 (by decide)).trans e13
      rw [hs1] at b2
      have l2 : (bys (v.drop j)).length = v.length - j := by rw [bys_length, List.length_drop]
      have hM2 := hM.tmp C.ok o2 b2 (by rw [length_splice _ _ _ (by rw [hM.tt.2]; omega)]; exact hM.tt.2)
      have hcl := cutOut_length v i j (by omega) (by omega)
      have hT2 : (splice tc i (bys (v.drop j))).take i = bys (v.take i) := by
        rw [tmp_two v tc i j hT, List.take_append_of_le_length (by rw [bys_length]; omega), ← bys_take, cutOut_take_i v i j (by omega)]
      have hrd : RdS w2 (some ⟨p.bt, 0, none⟩) (cutOut v i j) := by
        rw [tmp_two v tc i j hT] at b2
        exact b2.rds
      generalize splice tc i (bys (v.drop j)) = tc2 at hM2 hT2
      refine wp_seq (wp_seq_n (rg31_ C.tr f5 w2 _ (cutOut v i j) v v tc2 (v.length - j + i) p.L c hF5.s1 e135 hM2 hrd hcl (by omega) (by omega) (hM.byt.cut _ _) (by omega)) ?_)
      rintro _ w3 ⟨f6, rfl, q6, e132, hM3, hk3⟩
      have hF6 : FI p f6 v.length := q6.fi hF5 (by decide)
      have h116 : f6 11 = .int .i64 i := (q6 11 (by decide)).trans h115
      have h126 : f6 12 = .int .i64 j := (q6 12 (by decide)).trans h125
      have e136 : f6 13 = _ := (q6 13 (by decide)).trans e135
      cases hKt : K (cutOut v i j) with
      | true =>
        have hpos2 := C.pos hKt
        refine wp_if_false (by decide) (by rw [e132, hKt]; rfl) (wp_skip ?_)
        show Code.wp Try.prog _ _ _ _
        rw [hKt] at hM3
        obtain ⟨full3, rest3, hbv3, hfl3, hft3⟩ := hM3.vv
        have hs3 := src_mid full3 v rest3 j hft3
        refine wp_seq_n (rg32_ f6 w3 p.bv i j v.length p.cv (bys full3 ++ rest3) hF6.s0 h116 h126 (by omega) (by omega) (by omega) (by omega) (by omega) hbv3 (by rw [List.length_append, bys_length]; omega)
          (by rw [hs3]; exact bys_one _)) ?_
        rintro _ w4 ⟨f7, rfl, q7, b4, o4⟩
        have hF7 : FI p f7 v.length := q7.fi hF6 (by decide)
        have h117 : f7 11 = .int .i64 i := (q7 11 (by decide)).trans h116
        have e137 : f7 13 = _ := (q7 13 (by decide)).trans e136
        have hM4 := hM3.vcut C.ok o4 (by omega : i ≤ j) (by omega) hfl3 hft3 b4
        refine wp_seq_n (rg33_ f7 w4 v.length p.cv (v.length - j + i) p.L _ _ hF7.s0 e137 (by omega) (by omega)) ?_
        rintro _ _ ⟨f8, rfl, q8, e0, rfl⟩
        have hF8 : FI p f8 (cutOut v i j).length :=
          ⟨by rw [e0, hcl], (q8 1 (by decide)).trans hF7.s1, (q8 2 (by decide)).trans hF7.s2, (q8 6 (by decide)).trans hF7.s6⟩
        have h118 : f8 11 = .int .i64 i := (q8 11 (by decide)).trans h117
        refine wp_of_normal (rg34_ f8 w4 _ _ _ hF8.s0) ?_
        rintro _ _ ⟨f9, rfl, q9, e12, rfl⟩
        have hF9 : FI p f9 (cutOut v i j).length := q9.fi hF8 (by decide)
        have h119 : f9 11 = .int .i64 i := (q9 11 (by decide)).trans h118
        show Code.wp Try.prog _ _ _ _
        refine wp_of_normal (rg27_ f9 w4 (cutOut v i j).length (by omega) hpos2 e12) ?_
        rintro _ _ ⟨g, rfl, qg, eg, rfl⟩
        have hFg : FI p g (cutOut v i j).length := qg.fi hF9 (by decide)
        refine ⟨⟨g, (cutOut v i j).length - 1, _, c + 1, tc2, rfl, hFg, (qg 11 (by decide)).trans h119, eg, hM4, ?_, by omega, hR.p3_cut hlt (by omega) hKt⟩, ?_⟩
        · rw [hT2, cutOut_take_i v i j (by omega)]
        · rw [mu5_at hFg.s0 eg]
          omega
      | false =>
        refine wp_if_true (by decide) (by rw [e132, hKt]; rfl) (wp_exit ?_)
        rw [hKt] at hM3
        show Code.wp Try.prog _ _ _ _
        refine wp_of_normal (rg27_ f6 w3 j (by omega) (by omega) h126) ?_
        rintro _ _ ⟨g, rfl, qg, eg, rfl⟩
        have hFg : FI p g v.length := qg.fi hF6 (by decide)
        refine ⟨⟨g, j - 1, v, c + 1, tc2, rfl, hFg, (qg 11 (by decide)).trans h116, eg, hM3, hT2, hn0, hR.p3_no hlt (by omega) hKt⟩, ?_⟩
        rw [mu5_at hFg.s0 eg]
        omega
  · refine wp_if_false (by decide) (by rw [e109]; simp [hlt]) (wp_exit ?_)
    exact hout f1 v c tc _ hF1 h111 hM hn0 (hR.p3_out hlt)

/-- The head of loop 4. -/
def I4 (p : Ads) (w0 : World) (K : List Int → Bool) (b : List Int) (D : List Deferred) (a : Act) (w : World) : Prop :=
  ∃ f i v c tc, a = ⟨frame f, D⟩ ∧ FI p f v.length ∧ f 11 = .int .i64 ((i : Nat) : Int) ∧ Mem p w0 w c v v tc ∧ i ≤ 2000 ∧ Reach K p.S b (.p3 i v c)

def mu4 (a : Act) (_ : World) : Nat := lenOf (a.tmps.getD 0 undef) - (intOf (a.tmps.getD 11 undef)).toNat
theorem mu4_at {f : Nat → Value} {w : World} {n : Nat} {A : Option Addr} {cp : Nat} {i : Nat} (h0 : f 0 = .slice A n cp) (h11 : f 11 = .int .i64 (i : Int)) : mu4 ⟨frame f, D⟩ w = n - i := by
  unfold mu4; rw [frame_get _ _ (by decide), frame_get _ _ (by decide), h0, h11]; rfl

theorem round4 (C : Ctx p w0 K b D Q)
    (hout : ∀ (f : Nat → Value) (v : List Int) (c : Nat) (tc : List Value) (w : World), FI p f v.length → Mem p w0 w c v v tc → Reach K p.S b (.p4 0 v c) → Q (.exit 6) ⟨frame f, D⟩ w)
    (a : Act) (w : World) (hI : I4 p w0 K b D a w) :
    body4.wp Try.prog (Exit.then (fun a' w' => I4 p w0 K b D a' w' ∧ mu4 a' w' < mu4 a w) Q) a w := by
  obtain ⟨f, i, v, c, tc, rfl, hF, h11, hM, hi2, hR⟩ := hI
  obtain ⟨hK, hvb, hcS⟩ := hR.wtd C.wanted
  have hpos := C.pos hK
  have hle := hM.le
  have hcap := C.ok.cap
  have hlen := C.ok.len
  have htr := C.ok.tries
  rw [mu4_at hF.s0 h11]
  refine wp_seq (wp_seq_n (rg22_ f w i v.length p.cv _ h11 hF.s0 hpos (by omega)) ?_)
  rintro _ _ ⟨f1, rfl, q1, e96, rfl⟩
  have hF1 : FI p f1 v.length := q1.fi hF (by decide)
  have h111 : f1 11 = .int .i64 i := (q1 11 (by decide)).trans h11
  by_cases hlt : i + 1 < v.length
  · refine wp_if_true (by decide) (by rw [e96]; simp [hlt]) (wp_skip ?_)
    show Code.wp Try.prog _ _ _ _
    obtain ⟨full, rest, hbv, hfl, hft⟩ := hM.vv
    have hs := src_take full v rest i hft (by omega)
    refine wp_seq (wp_block (wp_seq_n (rg24_ f1 w p.bt p.bv i v.length p.L p.L p.cv tc (bys full ++ rest) hF1.s6 hF1.s0 h111 (by omega) (by omega) (by omega) (by omega) (by omega) hM.tt.1 hbv (by rw [hM.tt.2]; omega) (by rw [List.length_append, bys_length]; omega)
      (by rw [hs]; exact bys_one _)) ?_))
    rintro _ w1 ⟨f2, rfl, q2, b1, o1⟩
    have hF2 : FI p f2 v.length := q2.fi hF1 (by decide)
    have h112 : f2 11 = .int .i64 i := (q2 11 (by decide)).trans h111
    rw [hs] at b1
    have l1 : (bys (v.take i)).length = i := by rw [bys_length, List.length_take]; omega
    have hM1 := hM.tmp C.ok o1 b1 (by rw [length_splice _ _ _ (by rw [hM.tt.2]; omega)]; exact hM.tt.2)
    have hT1 := tmp_head v tc i (by omega)
    refine wp_seq_n (rg25_ f2 w1 _ _ _ hF2.s0) ?_
    rintro _ _ ⟨f3, rfl, q3, e12, rfl⟩
    have hF3 : FI p f3 v.length := q3.fi hF2 (by decide)
    have h113 : f3 11 = .int .i64 i := (q3 11 (by decide)).trans h112
    refine wp_block (wp_loop (I5 p w0 K b D i v.length) mu5 ⟨f3, v.length, v, c, _, rfl, hF3, h113, e12, hM1, hT1, Nat.le_refl _, hR.p3_in hlt⟩ ?_)
    intro a2 w2 hI5
    refine round5 (Q := Exit.inBlock 8 (Exit.inBlock 7 (Exit.then _ _))) ?_ i v.length (by omega) ?_ a2 w2 hI5
    · exact ⟨C.ok, C.tr, C.st, C.wanted, C.none, C.len, C.ret⟩
    · intro g v' c' tc' w' hFg h11g hMg hn hRg
      show Code.wp Try.prog _ _ _ _
      refine wp_of_normal (rg23_ g w' i (by omega) h11g) ?_
      rintro _ _ ⟨g1, rfl, qg, e11, rfl⟩
      have hFg1 : FI p g1 v'.length := qg.fi hFg (by decide)
      refine ⟨⟨g1, i + 1, v', c', tc', rfl, hFg1, e11, hMg, by omega, hRg⟩, ?_⟩
      rw [mu4_at hFg1.s0 e11]
      omega
  · refine wp_if_false (by decide) (by rw [e96]; simp [hlt]) (wp_exit ?_)
    exact hout f1 v c tc _ hF1 hM (hR.p4_ hlt)

/-- Phase 3. -/
theorem phase3 (C : Ctx p w0 K b D Q) (f : Nat → Value) (v : List Int) (c : Nat) (tc : List Value) (w : World) (hF : FI p f v.length) (hM : Mem p w0 w c v v tc) (hR : Reach K p.S b (.p3 0 v c))
    (hout : ∀ (f : Nat → Value) (v : List Int) (c : Nat) (tc : List Value) (w : World), FI p f v.length → Mem p w0 w c v v tc → Reach K p.S b (.p4 0 v c) → Q .normal ⟨frame f, D⟩ w) :
    (Code.seq (rg 21) (.block 6 (.loop body4))).wp Try.prog Q ⟨frame f, D⟩ w := by
  refine wp_seq_n (rg21_ f w) ?_
  rintro _ _ ⟨f1, rfl, q1, e11, rfl⟩
  have hF1 : FI p f1 v.length := q1.fi hF (by decide)
  refine wp_block (wp_loop (I4 p w0 K b D) mu4 ⟨f1, 0, v, c, tc, rfl, hF1, e11, hM, by omega, hR⟩ ?_)
  intro a1 w1 hI1
  refine round4 (Q := Exit.inBlock 6 Q) ⟨C.ok, C.tr, C.st, C.wanted, C.none, C.len, C.ret⟩ ?_ a1 w1 hI1
  intro g v c tc' w' hFg hMg hRg
  exact hout g v c tc' w' hFg hMg hRg

end Go.Proofs.Ytganmbbdmoldeaa.Mz
