/-
  minimizeBytes as a whole: it returns, and the last bytes that were wanted are the bytes of a stop that the transition system reaches.
  Conditions: what a call of 'try' and of 'shouldStop' does; that the bytes are wanted at first and no empty bytes are; at most 2000 bytes and 65536 tries.
-/
import Derived.Test.YtganmbbdmoldeaaMFour
import Derived.Test.YtganmbbdmoldeaaMDefer
import Derived.Laws.MakeOwn
namespace Go.Proofs.Ytganmbbdmoldeaa.Mz
open Go.RowKit

section
set_option linter.unusedSimpArgs false
attribute [local go_sem] frame_get frame_at frame_set upd_same upd_ne
variable {D : List Deferred}

theorem made_bys (n : Nat) : madeCells (Value.int IntKind.u8 0).cells n = (bys (List.replicate n 0)).toArray := by
  apply Array.ext'
  show (madeCells #[Value.int IntKind.u8 0] n).toList = _
  rw [toList_madeCells_one]
  simp [bys]

set_option maxHeartbeats 400000 in
theorem rg0_ (f : Nat → Value) (w : World) (A : Option Addr) (n c : Nat) (h0 : f 0 = .slice A n c) (hn : n ≤ 2000) :
    (rg 0).wp Try.prog (onNormal fun a' w' => ∃ f', a' = ⟨frame f', D⟩ ∧ Eqv [6, 21, 20, 19] f f' ∧ f' 6 = .slice (some ⟨w.heap.size, 0, none⟩) n n ∧ w.alloc (.cells (bys (List.replicate n 0)).toArray 5) = w') ⟨frame f, D⟩ w := by
  obtain ⟨i0, hi, hz0, hz1, hz2⟩ := info_parts info5
  have hmk : ∀ W : World, (Instr.makeSlice 22 (.int .i64 (n : Int)) (.int .i64 (n : Int))).run Try.prog W = .ok (.slice (some ⟨W.heap.size, 0, none⟩) n n) (W.alloc (.cells (bys (List.replicate n 0)).toArray 5)) := by
    intro W
    have h := run_make (P := Try.prog) W 22 5 i0 _ Try.underlying22 hi hz0 .i64 .i64 n n (by omega) (by omega) (by rw [hz2]; omega) (by omega)
    rw [h]
    simp only [Int.toNat_natCast, hz1, Nat.mul_one]
    rw [made_bys]
  clear hi hz0 hz1 hz2
  conv => arg 2; whnf
  go_wp
  exact ⟨_, rfl, by repeat (first | exact Eqv.refl _ | apply Eqv.step), upd_same _ _ _, rfl⟩

/-- The deferred call. -/
def dfr (A B : Option Addr) (n c m d : Nat) : Deferred := { target := Target.builtin Builtin.copy #[22, 22] 0 #[false, false], args := #[Value.slice B m d, Value.slice A n c] }

set_option maxHeartbeats 400000 in
theorem rg1_ (f : Nat → Value) (w : World) (A B : Option Addr) (n c m d : Nat) (h0 : f 0 = .slice A n c) (h6 : f 6 = .slice B m d) :
    (rg 1).wp Try.prog (onNormal fun a' w' => ∃ f', a' = ⟨frame f', dfr A B n c m d :: D⟩ ∧ Eqv [23, 22] f f' ∧ w = w') ⟨frame f, D⟩ w := by
  conv => arg 2; whnf
  go_wp
  exact ⟨_, rfl, by repeat (first | exact Eqv.refl _ | apply Eqv.step), rfl⟩
end

variable {p : Ads} {w0 : World} {K : List Int → Bool} {b : List Int}

/-- What memory holds when minimizeBytes is called. -/
structure Entry (p : Ads) (w0 w : World) (b : List Int) : Prop where
  below : Below w0.heap.size w0 w
  base : w0.heap.size ≤ p.bk
  nn : Blk w p.bn 3 [.int .i64 ((0 : Nat) : Int)]
  kk : Blk w p.bk 33 [p.kv]
  ss : Blk w p.bs 3 [.int .i64 p.S]
  vv : ∃ rest, Blk w p.bv 5 (bys b ++ rest)
  be : BestIs p w b
  byt : Byt b
  bt : p.bt = w.heap.size
  L : p.L = b.length

theorem Entry.mem {w : World} (h : Entry p w0 w b) : Mem p w0 (w.alloc (.cells (bys (List.replicate b.length 0)).toArray 5)) 0 b b (bys (List.replicate b.length 0)) := by
  have hb := h.bt
  refine ⟨h.below.alloc h.below.size _, h.base, h.nn.alloc _, h.kk.alloc _, h.ss.alloc _, ?_, ⟨?_, ?_⟩, h.be.move fun k hk _ => Below.heap_alloc w _ k hk, h.byt⟩
  · obtain ⟨rest, h1⟩ := h.vv
    exact ⟨b, rest, h1.alloc _, h.L.symm, List.take_length⟩
  · rw [hb]; exact heap_alloc_new w _
  · rw [bys_length, List.length_replicate, h.L]

theorem getD_app (X Y : Array Value) (i : Nat) (h : i < X.size) : (X ++ Y).getD i undef = X.getD i undef := by
  rw [Array.getD_eq_getD_getElem?, Array.getD_eq_getD_getElem?, Array.getElem?_append_left h]

theorem mb_calls (hp : p.Ok) (hT : TryC p w0 K) (hS : StopC p) (hb : K b = true) (h0 : K [] = false) (w : World) (E : Entry p w0 w b) :
    Calls Try.prog 23 #[.slice (some ⟨p.bv, 0, none⟩) b.length p.cv, tryV p, stopV p] w
      fun e w' => e = .returned (.tuple #[]) ∧ ∃ R, Reach K p.S b (.stop R) ∧ Below w0.heap.size w0 w' ∧ BestIs p w' R := by
  have hL := E.L
  have hlen := hp.len
  refine calls_of_wp_builtin Try.func23 body_eq ?_
  simp only [Try.ntmps23]
  generalize hfr : (#[Value.slice (some ⟨p.bv, 0, none⟩) b.length p.cv, tryV p, stopV p] ++ Array.replicate (176 - (#[Value.slice (some ⟨p.bv, 0, none⟩) b.length p.cv, tryV p, stopV p] : Array Value).size) undef : Array Value) = T
  have hsz : T.size = 176 := by rw [← hfr]; simp
  have e0 : T.getD 0 undef = .slice (some ⟨p.bv, 0, none⟩) b.length p.cv := by rw [← hfr, getD_app _ _ _ (by simp)]; rfl
  have e1 : T.getD 1 undef = tryV p := by rw [← hfr, getD_app _ _ _ (by simp)]; rfl
  have e2 : T.getD 2 undef = stopV p := by rw [← hfr, getD_app _ _ _ (by simp)]; rfl
  rw [frame_of T hsz]
  clear hfr
  generalize hf : (fun i => T.getD i undef) = f
  have e0 : f 0 = .slice (some ⟨p.bv, 0, none⟩) b.length p.cv := by rw [← hf]; exact e0
  have e1 : f 1 = tryV p := by rw [← hf]; exact e1
  have e2 : f 2 = stopV p := by rw [← hf]; exact e2
  clear hf hsz
  show Code.wp Try.prog bodyC _ _ _
  refine wp_seq_n (rg0_ f w _ _ _ e0 (by omega)) ?_
  rintro _ _ ⟨f1, rfl, q1, e6, rfl⟩
  refine wp_seq_n (rg1_ f1 _ _ _ _ _ _ _ ((q1 0 (by decide)).trans e0) e6) ?_
  rintro _ _ ⟨f2, rfl, q2, rfl⟩
  have hM := E.mem
  have hF : FI p f2 b.length := ⟨(q2 0 (by decide)).trans ((q1 0 (by decide)).trans e0), (q2 1 (by decide)).trans ((q1 1 (by decide)).trans e1), (q2 2 (by decide)).trans ((q1 2 (by decide)).trans e2), by
    rw [q2 6 (by decide), e6, ← E.bt, hL]⟩
  -- where the body ends, by a return or at its foot, the copy runs: it turns the scratch alone
  have hfin : ∀ (f : Nat → Value) (v : List Int) (c : Nat) (tc : List Value) (w' : World), Mem p w0 w' c v v tc → Reach K p.S b (.stop v) →
      bodyPostB Try.prog Try.f23 (fun e w' => e = .returned (.tuple #[]) ∧ ∃ R, Reach K p.S b (.stop R) ∧ Below w0.heap.size w0 w' ∧ BestIs p w' R) .ret
        ⟨frame f, [dfr (some ⟨p.bv, 0, none⟩) (some ⟨w.heap.size, 0, none⟩) b.length p.cv b.length b.length]⟩ w' := by
    intro g v c tc w' hM' hR'
    obtain ⟨full, rest, hbv, hfl, hft⟩ := hM'.vv
    have hs : (bys full ++ rest).take b.length = bys full := by
      rw [List.take_append_of_le_length (by rw [bys_length]; omega), List.take_of_length_le (by rw [bys_length]; omega)]
    have hsrc := head_src hbv b.length
    rw [hs] at hsrc
    obtain ⟨w2, hrun, hB2, hO2⟩ := run_copy_mz (P := Try.prog) (w := w') 22 22 0 5 Try.underlying22 size5 (some ⟨w.heap.size, 0, none⟩) (some ⟨p.bv, 0, none⟩) b.length b.length b.length p.cv
      w.heap.size 0 tc 5 (by rw [← E.bt]; exact hM'.tt.1) (bys full) (by rw [bys_length, hfl, hL]; exact (Nat.min_self _).symm) (fun _ => ⟨rfl, _, rfl, hsrc⟩) (by rw [bys_length, hfl, hM'.tt.2]; omega) (bys_one _)
    rw [← E.bt] at hB2 hO2
    have hM2 := hM'.tmp hp hO2 hB2 (by rw [length_splice _ _ _ (by rw [bys_length, hfl, hM'.tt.2]; omega)]; exact hM'.tt.2)
    refine ⟨_, goInt (bys full).length, w2, .tuple #[], rfl, ⟨_, _, _, _, rfl⟩, ?_, results_none Try.results23 _ _ _, rfl, v, hR', hM2.below, hM2.be⟩
    show (builtin .copy #[22, 22] 0 #[false, false] #[Value.slice (some ⟨w.heap.size, 0, none⟩) b.length b.length, Value.slice (some ⟨p.bv, 0, none⟩) b.length p.cv]).run Try.prog w' = _
    simp [builtin, hrun, Result.andThen]
  refine wp_seq ?_
  refine phase1 (K := K) (Q := Exit.then _ _) ?_ f2 _ _ hF hM ?_
  · exact ⟨hp, hT, hS, hb, h0, by omega, hfin⟩
  intro g v c tc w1 hFg hMg hRg
  refine wp_seq ?_
  refine phase2 (K := K) (Q := Exit.then _ _) ?_ g v c tc w1 hFg hMg hRg ?_
  · exact ⟨hp, hT, hS, hb, h0, by omega, hfin⟩
  intro g v c tc w1 hFg hMg hRg
  refine wp_seq ?_
  refine phase3 (K := K) (Q := Exit.then _ _) ?_ g v c tc w1 hFg hMg hRg ?_
  · exact ⟨hp, hT, hS, hb, h0, by omega, hfin⟩
  intro g v c tc w1 hFg hMg hRg
  refine phase4 ⟨hp, hT, hS, hb, h0, by omega, hfin⟩ g v c tc w1 hFg hMg hRg ?_
  intro g v c tc w1 hMg hRg
  exact hfin g v c tc w1 hMg hRg

end Go.Proofs.Ytganmbbdmoldeaa.Mz
