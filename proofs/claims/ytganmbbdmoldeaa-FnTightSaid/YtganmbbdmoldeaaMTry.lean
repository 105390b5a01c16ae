/-
  The closures 'try' and 'shouldStop' that Minimize hands to minimizeBytes: what a call of each does.
  Conditions: what a call of 'keep' does; at most 2000 bytes and 100000 tries.
-/
import Derived.Test.YtganmbbdmoldeaaMLem
import Derived.WalkKit
import Derived.WalkSpells
import Derived.WalkLawsBesides
import Derived.Deep.AppendLies
import Derived.Deep.Draws
import Derived.Lib.Hide
namespace Go.Proofs.Ytganmbbdmoldeaa.Mz
open Go.RowKit
set_option linter.unusedSimpArgs false

/-- append([]byte(nil), xs...): a new block that begins with xs. -/
theorem wpList_nil_append {w : World} {ops : Array Oper} {rest : List Oper} {o : Oper} {a : Act} {Q : Exit → Act → World → Prop} (hgd : o.guard = none) (s x : Operand)
    (ho : o.op = .call { callee := .builtin .append, args := #[s, x], argTypes := #[22, 22] }) (hs : a.eval s = .slice none 0 0)
    (xs : List Int) (A : Option Addr) (c : Nat) (hx : a.eval x = .slice A xs.length c) (hr : RdS w A xs) (hpos : 0 < xs.length) (hl : xs.length ≤ 2000)
    (h : ∀ cap more w', Blk w' w.heap.size 5 (bys xs ++ more) → xs.length ≤ cap → w.grownBy w' none →
      wpList Try.prog ops Q rest (a.put o.dst (.slice (some ⟨w.heap.size, 0, none⟩) xs.length cap)) w') : wpList Try.prog ops Q (o :: rest) a w := by
  obtain ⟨i0, hi, hz0, hz1, hz2⟩ := info_parts info5
  obtain ⟨ad, rfl, hc⟩ := hr hpos
  refine wpList_append_lies (P := Try.prog) w hgd s x 22 ho w.heap.size 5 i0 _ 1 1 Try.underlying22 hi hz0 hz1 hz2 rfl (by decide) _ 0 [] hs ⟨by simp, .inl ⟨rfl, rfl⟩⟩ ad xs.length c (bys xs) hx (by simp [bys]) hc (bys_one _) hpos
    (by unfold maxLen; omega) (by omega) (Nat.le_refl _) w.heap.size rfl ?_
  intro g cap w' hown hgrow hat hlt
  have hg : g = w.heap.size := by
    rcases hat with h1 | h1
    · simp [Value.ownBlock] at h1
    · exact h1
  subst hg
  rcases hown.2 with ⟨h1, _⟩ | ⟨g', cap', cur, h1, _, h3, h4, _, h6, h7⟩
  · cases h1
  · injection h1 with h1 h1' h1''
    injection h1 with h1
    injection h1 with h1
    subst h1 h1''
    rw [Nat.zero_add]
    refine h cap (cur.toList.drop xs.length) w' ?_ (by omega) hgrow
    have e : bys xs ++ cur.toList.drop xs.length = cur.toList := by
      have : cur.toList.take xs.length = bys xs := by simpa using h7
      rw [← this, List.take_append_drop]
    unfold Blk
    rw [e]
    exact h3

theorem Blk.grown {w w' : World} {g t : Nat} {cs : List Value} {row : Option Nat} (h : Blk w g t cs) (hg : w.grownBy w' row) (hr : some g ≠ row) : Blk w' g t cs := (hg.block g h.lt hr).trans h
theorem Blk.drewN {w : World} {g t : Nat} {cs : List Value} (h : Blk w g t cs) (m : Nat) : Blk (w.drewN m) g t cs := h

theorem RdS.keep {w w' : World} {A : Option Addr} {xs : List Int} (h : RdS w A xs) (hk : ∀ a v, w.cell? a = some v → w'.cell? a = some v) : RdS w' A xs := by
  intro hl
  obtain ⟨ad, rfl, hc⟩ := h hl
  exact ⟨ad, rfl, fun j u hj => hk _ _ (hc j u hj)⟩
theorem RdS.below {w w' : World} {A : Option Addr} {xs : List Int} (h : RdS w A xs) (hb : Below w.heap.size w w') : RdS w' A xs :=
  h.keep fun a _ hc => (hb.cell (World.block_lt_of_cell? w a hc)).trans hc
theorem RdS.alloc {w : World} {A : Option Addr} {xs : List Int} (h : RdS w A xs) (o : Obj) : RdS (w.alloc o) A xs := h.below ((Below.refl _ _).alloc (Nat.le_refl _) o)
theorem RdS.grown {w w' : World} {A : Option Addr} {xs : List Int} (h : RdS w A xs) (hg : w.grownBy w' none) : RdS w' A xs := h.below ((Below.refl _ _).grown hg (Nat.le_refl _) (fun k hk => by cases hk))

variable {p : Ads} {w0 : World} {K : List Int → Bool}

set_option maxHeartbeats 400000 in
theorem stop_calls : StopC p := by
  intro w n hn hs hl
  have hc1 : w.cell? ⟨p.bn, 0, none⟩ = some (.int .i64 n) := by rw [hn.cell]; rfl
  have hc2 : w.cell? ⟨p.bs, 0, none⟩ = some (.int .i64 p.S) := by rw [hs.cell]; rfl
  clear hn hs
  go_enter Try.func25, Try.ntmps25
  go_wp2
  go_ret
  exact ⟨by simp, rfl⟩

/-- What a call of 'keep' does, in a world in which all from below w0's blocks stands. -/
def KeepC (fk : FuncId) (bp : Nat) (w0 : World) (K : List Int → Bool) : Prop :=
  ∀ (w : World) (xs : List Int) (A : Option Addr) (c : Nat), Below w0.heap.size w0 w → RdS w A xs → xs.length ≤ c → xs.length ≤ 2000 → Byt xs →
    Calls Try.prog fk #[.slice A xs.length c, .pointer (some ⟨bp, 0, none⟩)] w fun e w' => e = .returned (.bool (K xs)) ∧ ∃ m, w.drewN m = w'

theorem Mem.drewN {w : World} {n : Nat} {best v : List Int} {tc : List Value} (h : Mem p w0 w n best v tc) (m : Nat) : Mem p w0 (w.drewN m) n best v tc :=
  ⟨⟨h.below.os, h.below.tape, h.below.output, h.below.size, h.below.block⟩, h.base, h.nn, h.kk, h.ss, h.vv, h.tt, h.be, h.byt⟩

/-- The count of tries has turned. -/
theorem Mem.count (hp : p.Ok) {w : World} {n : Nat} {best v : List Int} {tc : List Value} (h : Mem p w0 w n best v tc) : Mem p w0 (w.setCell ⟨p.bn, 0, none⟩ (.int .i64 ((n : Int) + 1))) (n + 1) best v tc := by
  have e : ((n + 1 : Nat) : Int) = (n : Int) + 1 := by omega
  obtain ⟨a1, a2, a3, a4, a5, _⟩ := hp
  have hbase := h.base
  refine ⟨h.below.setCell (by show _ ≤ p.bn; omega) _, h.base, by rw [e]; exact h.nn.set_ 0 _, h.kk.far (by show p.bk ≠ p.bn; omega) _, h.ss.far (by show p.bs ≠ p.bn; omega) _, ?_,
    ⟨h.tt.1.far (by show p.bt ≠ p.bn; omega) _, h.tt.2⟩, h.be.move fun k _ hk => Below.heap_setCell _ _ _ _ (by show k ≠ p.bn; omega), h.byt⟩
  obtain ⟨full, rest, h1, h2, h3⟩ := h.vv
  exact ⟨full, rest, h1.far (by show p.bv ≠ p.bn; omega) _, h2, h3⟩

/-- The last bytes that were wanted have turned. -/
theorem Mem.best_ (hp : p.Ok) {w w1 : World} {n : Nat} {best v xs : List Int} {tc : List Value} (h : Mem p w0 w n best v tc) (hg : w.grownBy w1 none) {cap : Nat} {more : List Value}
    (hb : Blk w1 w.heap.size 5 (bys xs ++ more)) (hc : xs.length ≤ cap) : Mem p w0 (w1.setCell ⟨p.bb, 0, none⟩ (.slice (some ⟨w.heap.size, 0, none⟩) xs.length cap)) n xs v tc := by
  obtain ⟨a1, a2, a3, a4, a5, _⟩ := hp
  have hbase := h.base
  have hw := h.below.grown hg h.below.size (fun k hk => by cases hk)
  have hnl := h.nn.lt
  have htl := h.tt.1.lt
  obtain ⟨g, c, rest, hbb, _⟩ := h.be
  have hbl := hbb.lt
  obtain ⟨full, rst, hv1, hv2, hv3⟩ := h.vv
  have hvl := hv1.lt
  refine ⟨hw.setCell (by show _ ≤ p.bb; omega) _, h.base, (h.nn.grown hg (by simp)).far (by show p.bn ≠ p.bb; omega) _, (h.kk.grown hg (by simp)).far (by show p.bk ≠ p.bb; omega) _, (h.ss.grown hg (by simp)).far (by show p.bs ≠ p.bb; omega) _,
    ⟨full, rst, (hv1.grown hg (by simp)).far (by show p.bv ≠ p.bb; omega) _, hv2, hv3⟩,
    ⟨(h.tt.1.grown hg (by simp)).far (by show p.bt ≠ p.bb; omega) _, h.tt.2⟩, ?_, h.byt⟩
  exact ⟨w.heap.size, cap, more, (hbb.grown hg (by simp)).set_ 0 _, by omega, by omega, by omega, by omega, hc, hb.far (by show w.heap.size ≠ p.bb; omega) _⟩

theorem RdS.set_ {w : World} {A : Option Addr} {xs : List Int} (h : RdS w A xs) {q : Addr} {n : Int} (hq : w.cell? q = some (.int .i64 n)) (u : Value) : RdS (w.setCell q u) A xs := by
  intro hl
  obtain ⟨ad, rfl, hc⟩ := h hl
  refine ⟨ad, rfl, fun j v hj => ?_⟩
  have h1 := hc j v hj
  rw [World.cell?_setCell_other]
  · exact h1
  · intro e
    have e : q = ad.add j := by first | exact e | exact e.symm
    rw [e, h1] at hq
    have hm : v ∈ bys xs := List.mem_of_getElem? hj
    obtain ⟨x, _, rfl⟩ := List.mem_map.1 hm
    injection hq with hq
    injection hq with hq
    cases hq

theorem Kept.count (w : World) (u : Value) (m : Nat) : Kept p w ((w.setCell ⟨p.bn, 0, none⟩ u).drewN m) :=
  ⟨by simp [World.setCell], fun k _ h1 _ => Below.heap_setCell w _ u k h1⟩
theorem Kept.best {w w1 : World} {u u' : Value} {m : Nat} (hg : ((w.setCell ⟨p.bn, 0, none⟩ u).drewN m).grownBy w1 none) : Kept p w (w1.setCell ⟨p.bb, 0, none⟩ u') := by
  have hs : ((w.setCell ⟨p.bn, 0, none⟩ u).drewN m).heap.size = w.heap.size := by simp [World.setCell]
  refine ⟨?_, fun k hk h1 h2 => ?_⟩
  · have := hg.size
    rw [hs] at this
    simpa [World.setCell] using this
  · rw [Below.heap_setCell w1 _ u' k h2, hg.block k (by rw [hs]; exact hk) (by simp)]
    exact Below.heap_setCell w _ u k h1

set_option maxHeartbeats 400000 in
theorem try_calls (hp : p.Ok) (fk : FuncId) (bp : Nat) (hkv : p.kv = .func (.func fk) #[] #[.pointer (some ⟨bp, 0, none⟩)])
    (hent : ∀ (args : Array Value) (w : World), (callFunc fk args).run Try.prog w = .ok (.enter fk args) w) (hK : KeepC fk bp w0 K) (h0 : K [] = false) : TryC p w0 K := by
  intro w n best v tc xs A c hM hr hx hl hb hn
  have hne : ¬ p.bk = p.bn := by have := hp.ks; have := hp.sv; have := hp.vb; have := hp.bn_; omega
  have hc1 : w.cell? ⟨p.bn, 0, none⟩ = some (.int .i64 n) := by rw [hM.nn.cell]; rfl
  have hf1 : w.frozen? ⟨p.bn, 0, none⟩ = false := hM.nn.frozen 0
  have hc2 : w.cell? ⟨p.bk, 0, none⟩ = some (.func (.func fk) #[] #[.pointer (some ⟨bp, 0, none⟩)]) := by rw [hM.kk.cell, hkv]; rfl
  have hM1 := hM.count hp
  have hr1 := hr.set_ hc1 (.int .i64 ((n : Int) + 1))
  have hcall := hK _ xs A c hM1.below hr1 hx hl hb
  have HM1 := Lib.hid hM1
  have HR1 := Lib.hid hr1
  clear hM1 hr1 hK hkv
  cases hKx : K xs with
  | false =>
    rw [hKx] at hcall
    have HC := Lib.hid hcall
    clear hKx hcall
    go_enter Try.func24, Try.ntmps24
    go_wp2_with fail
    refine HC.out.mono ?_
    rintro e w' ⟨rfl, m, rfl⟩
    go_wp2_with fail
    go_ret
    exact ⟨rfl, HM1.out.drewN m, Kept.count w _ m⟩
  | true =>
    rw [hKx] at hcall
    have HC := Lib.hid hcall
    have hpos : 0 < xs.length := by
      cases xs with
      | nil => rw [h0] at hKx; cases hKx
      | cons x r => simp
    clear hKx hcall
    go_enter Try.func24, Try.ntmps24
    go_wp2_with fail
    refine HC.out.mono ?_
    rintro e w' ⟨rfl, m, rfl⟩
    have hM2 := HM1.out.drewN m
    have hr2 : RdS ((w.setCell ⟨p.bn, 0, none⟩ (.int .i64 ((n : Int) + 1))).drewN m) A xs := HR1.out
    have HM2 := Lib.hid hM2
    have HR2 := Lib.hid hr2
    have Hp := Lib.hid hpos
    clear hM2 hr2 hpos
    go_wp2_with (at_builtin; refine wpList_nil_append rfl (.const (.slice none 0 0)) (.tmp 12) rfl rfl xs A c rfl HR2.out Hp.out hl ?_; intro cap more w2 hB2 hcap hg2; obtain ⟨g3, c3, rest3, hbb3, _⟩ := HM2.out.be; have hbb4 := hbb3.grown hg2 (by simp); have hcb : w2.cell? ⟨p.bb, 0, none⟩ = some _ := hbb4.cell 0; have hfb := hbb4.frozen 0)
    have hfin := HM2.out.best_ hp hg2 hB2 hcap
    have hs : ((w.setCell ⟨p.bn, 0, none⟩ (.int .i64 ((n : Int) + 1))).drewN m).heap.size = w.heap.size := by simp [World.setCell]
    rw [hs] at hfin
    go_ret
    exact ⟨rfl, hfin, Kept.best hg2⟩

end Go.Proofs.Ytganmbbdmoldeaa.Mz
