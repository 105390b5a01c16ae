/-
  What memory holds while minimizeBytes runs, and what its frame holds.
  Conditions: none beside the ones that each theorem states.
-/
import Derived.Test.YtganmbbdmoldeaaMFrame
import Derived.Test.YtganmbbdmoldeaaMPure
import Derived.Laws.CopyOwn
namespace Go.Proofs.Ytganmbbdmoldeaa.Mz
open Go.RowKit

/-- Bytes as values. -/
def bys (xs : List Int) : List Value := xs.map fun x => .int .u8 x
theorem bys_length (xs : List Int) : (bys xs).length = xs.length := by simp [bys]
theorem bys_append (xs ys : List Int) : bys (xs ++ ys) = bys xs ++ bys ys := by simp [bys]
theorem bys_take (xs : List Int) (n : Nat) : bys (xs.take n) = (bys xs).take n := by simp [bys]
theorem bys_drop (xs : List Int) (n : Nat) : bys (xs.drop n) = (bys xs).drop n := by simp [bys]
theorem bys_set (xs : List Int) (n : Nat) (x : Int) : bys (xs.set n x) = (bys xs).set n (.int .u8 x) := by simp [bys]
theorem bys_one (xs : List Int) : ∀ v ∈ bys xs, v.oneCell' = true := by
  intro v hv
  obtain ⟨x, _, rfl⟩ := List.mem_map.1 hv
  rfl

/-- A slice that reads as these bytes (nil is let in where there are none). -/
def RdS (w : World) (A : Option Addr) (xs : List Int) : Prop :=
  0 < xs.length → ∃ ad, A = some ad ∧ ∀ j u, (bys xs)[j]? = some u → w.cell? (ad.add j) = some u

def Byt (xs : List Int) : Prop := ∀ x ∈ xs, 0 ≤ x ∧ x ≤ 255

/-- A block that is known whole. -/
def Blk (w : World) (g : Nat) (t : TypeId) (cs : List Value) : Prop := w.heap[g]? = some (.cells cs.toArray t (0, 0))

theorem Blk.lt {w : World} {g t : Nat} {cs : List Value} (h : Blk w g t cs) : g < w.heap.size := (Array.getElem?_eq_some_iff.1 h).1
theorem Blk.cell {w : World} {g t : Nat} {cs : List Value} (h : Blk w g t cs) (i : Nat) : w.cell? ⟨g, i, none⟩ = cs[i]? := by
  have := cell_of_row w g i cs.toArray t (0, 0) h
  simpa using this
theorem Blk.frozen {w : World} {g t : Nat} {cs : List Value} (h : Blk w g t cs) (i : Nat) : w.frozen? ⟨g, i, none⟩ = false := by
  unfold Blk at h; simp [World.frozen?, h]
theorem Blk.set_ {w : World} {g t : Nat} {cs : List Value} (h : Blk w g t cs) (i : Nat) (u : Value) : Blk (w.setCell ⟨g, i, none⟩ u) g t (cs.set i u) := by
  unfold Blk at h ⊢
  simp [World.setCell, Array.getElem?_modify, h]
theorem Blk.far {w : World} {g t : Nat} {cs : List Value} (h : Blk w g t cs) {p : Addr} (hp : g ≠ p.block) (u : Value) : Blk (w.setCell p u) g t cs := (Below.heap_setCell w p u g hp).trans h
theorem Blk.alloc {w : World} {g t : Nat} {cs : List Value} (h : Blk w g t cs) (o : Obj) : Blk (w.alloc o) g t cs := (Below.heap_alloc w o g h.lt).trans h

theorem addr_add0 (g j : Nat) : (⟨g, 0, none⟩ : Addr).add j = ⟨g, j, none⟩ := by unfold Addr.add; split <;> simp_all
theorem addr_add (g i j : Nat) : (⟨g, i, none⟩ : Addr).add j = ⟨g, i + j, none⟩ := by unfold Addr.add; split <;> simp_all

/-- Bytes at the head of a block are read. -/
theorem Blk.rds {w : World} {g t : Nat} {xs : List Int} {rest : List Value} (h : Blk w g t (bys xs ++ rest)) : RdS w (some ⟨g, 0, none⟩) xs := by
  intro _
  refine ⟨_, rfl, fun j u hj => ?_⟩
  rw [addr_add0, h.cell, List.getElem?_append_left (List.getElem?_eq_some_iff.1 hj).1]
  exact hj

/-- The blocks of one run, the room of the slice, the number of tries, and the value of 'keep'. -/
structure Ads where
  bk : Nat
  bs : Nat
  bv : Nat
  bb : Nat
  bn : Nat
  bt : Nat
  L : Nat
  cv : Nat
  S : Nat
  kv : Value

structure Ads.Ok (p : Ads) : Prop where
  ks : p.bk < p.bs
  sv : p.bs < p.bv
  vb : p.bv < p.bb
  bn_ : p.bb < p.bn
  nt : p.bn < p.bt
  len : p.L ≤ 2000
  cap : p.L ≤ p.cv
  tries : p.S ≤ 65536

/-- The last bytes that were wanted: a slice in a block of its own. -/
def BestIs (p : Ads) (w : World) (xs : List Int) : Prop :=
  ∃ g c rest, Blk w p.bb 22 [.slice (some ⟨g, 0, none⟩) xs.length c] ∧ g ≠ p.bv ∧ g ≠ p.bt ∧ g ≠ p.bb ∧ g ≠ p.bn ∧ xs.length ≤ c ∧ Blk w g 5 (bys xs ++ rest)

structure Mem (p : Ads) (w0 w : World) (n : Nat) (best v : List Int) (tc : List Value) : Prop where
  below : Below w0.heap.size w0 w
  base : w0.heap.size ≤ p.bk
  nn : Blk w p.bn 3 [.int .i64 n]
  kk : Blk w p.bk 33 [p.kv]
  ss : Blk w p.bs 3 [.int .i64 p.S]
  vv : ∃ full rest, Blk w p.bv 5 (bys full ++ rest) ∧ full.length = p.L ∧ full.take v.length = v
  tt : Blk w p.bt 5 tc ∧ tc.length = p.L
  be : BestIs p w best
  byt : Byt v

theorem Mem.le {p : Ads} {w0 w : World} {n : Nat} {best v : List Int} {tc : List Value} (h : Mem p w0 w n best v tc) : v.length ≤ p.L := by
  obtain ⟨full, rest, _, hl, ht⟩ := h.vv
  have := congrArg List.length ht
  rw [List.length_take] at this
  omega

/-- All blocks but those of 'n' and 'best' are as they were. -/
def Kept (p : Ads) (w w' : World) : Prop := w.heap.size ≤ w'.heap.size ∧ ∀ k, k < w.heap.size → k ≠ p.bn → k ≠ p.bb → w'.heap[k]? = w.heap[k]?

def tryV (p : Ads) : Value := .func (.func 24) #[] #[.pointer (some ⟨p.bn, 0, none⟩), .pointer (some ⟨p.bk, 0, none⟩), .pointer (some ⟨p.bb, 0, none⟩)]
def stopV (p : Ads) : Value := .func (.func 25) #[] #[.pointer (some ⟨p.bn, 0, none⟩), .pointer (some ⟨p.bs, 0, none⟩)]

/-- What a call of 'try' does. -/
def TryC (p : Ads) (w0 : World) (K : List Int → Bool) : Prop :=
  ∀ (w : World) (n : Nat) (best v : List Int) (tc : List Value) (xs : List Int) (A : Option Addr) (c : Nat),
    Mem p w0 w n best v tc → RdS w A xs → xs.length ≤ c → xs.length ≤ 2000 → Byt xs → n ≤ 100000 →
    Calls Try.prog 24 #[.slice A xs.length c, .pointer (some ⟨p.bn, 0, none⟩), .pointer (some ⟨p.bk, 0, none⟩), .pointer (some ⟨p.bb, 0, none⟩)] w
      fun e w' => e = .returned (.bool (K xs)) ∧ Mem p w0 w' (n + 1) (if K xs = true then xs else best) v tc ∧ Kept p w w'

/-- What a call of 'shouldStop' does. -/
def StopC (p : Ads) : Prop :=
  ∀ (w : World) (n : Nat), Blk w p.bn 3 [.int .i64 n] → Blk w p.bs 3 [.int .i64 p.S] → n ≤ 100000 →
    Calls Try.prog 25 #[.pointer (some ⟨p.bn, 0, none⟩), .pointer (some ⟨p.bs, 0, none⟩)] w fun e w' => e = .returned (.bool (decide (p.S ≤ n))) ∧ w = w'

/-- What the frame holds at the heads of the loops. -/
structure FI (p : Ads) (f : Nat → Value) (len : Nat) : Prop where
  s0 : f 0 = .slice (some ⟨p.bv, 0, none⟩) len p.cv
  s1 : f 1 = tryV p
  s2 : f 2 = stopV p
  s6 : f 6 = .slice (some ⟨p.bt, 0, none⟩) p.L p.L

theorem FI.upd_ {p : Ads} {f : Nat → Value} {len : Nat} (h : FI p f len) (i : Nat) (v : Value) (hi : 6 < i) : FI p (upd f i v) len := by
  obtain ⟨h0, h1, h2, h6⟩ := h
  exact ⟨by rw [upd_ne _ _ _ _ (by omega)]; exact h0, by rw [upd_ne _ _ _ _ (by omega)]; exact h1, by rw [upd_ne _ _ _ _ (by omega)]; exact h2, by rw [upd_ne _ _ _ _ (by omega)]; exact h6⟩
theorem FI.upd0 {p : Ads} {f : Nat → Value} {len len' : Nat} (h : FI p f len) {v : Value} (hv : v = .slice (some ⟨p.bv, 0, none⟩) len' p.cv) : FI p (upd f 0 v) len' := by
  obtain ⟨h0, h1, h2, h6⟩ := h
  exact ⟨by rw [upd_same]; exact hv, by rw [upd_ne _ _ _ _ (by omega)]; exact h1, by rw [upd_ne _ _ _ _ (by omega)]; exact h2, by rw [upd_ne _ _ _ _ (by omega)]; exact h6⟩

/-- All but the listed slots are as they were. -/
def Eqv (ex : List Nat) (f f' : Nat → Value) : Prop := ∀ j, j ∉ ex → f' j = f j
theorem Eqv.refl (f : Nat → Value) : Eqv [] f f := fun _ _ => rfl
theorem Eqv.step {ex : List Nat} {f g : Nat → Value} (h : Eqv ex f g) (i : Nat) (v : Value) : Eqv (i :: ex) f (upd g i v) := by
  intro j hj
  rw [List.mem_cons, not_or] at hj
  rw [upd_ne _ _ _ _ hj.1]
  exact h j hj.2
theorem Eqv.fi {ex : List Nat} {p : Ads} {f f' : Nat → Value} {len : Nat} (h : Eqv ex f f') (hF : FI p f len) (hx : (0 ∉ ex ∧ 1 ∉ ex ∧ 2 ∉ ex ∧ 6 ∉ ex)) : FI p f' len :=
  ⟨(h 0 hx.1).trans hF.s0, (h 1 hx.2.1).trans hF.s1, (h 2 hx.2.2.1).trans hF.s2, (h 6 hx.2.2.2).trans hF.s6⟩

/-- Only block g has turned. -/
structure Only (g : Nat) (w w' : World) : Prop where
  os : w'.os = w.os
  tape : w'.tape = w.tape
  output : w'.output = w.output
  size : w'.heap.size = w.heap.size
  block : ∀ k, k ≠ g → w'.heap[k]? = w.heap[k]?

section
variable {P : Program} {w : World} {ops : Array Oper} {rest : List Oper} {o : Oper} {a : Act} {Q : Exit → Act → World → Prop}

/-- copy into a block that is known whole: what is left of it, and that nothing else turns. -/
theorem run_copy_mz (dT sT oT elem : TypeId) (hu : P.underlying dT = some (.slice elem)) (hsz : (P.info? elem).map (·.size) = some 1)
    (dp sp : Option Addr) (dLen dCap sLen sCap : Nat)
    (g off : Nat) (cur : List Value) (t : TypeId) (hg : Blk w g t cur) (cs : List Value) (hn : cs.length = Nat.min sLen dLen)
    (hpos : 0 < cs.length → dp = some ⟨g, off, none⟩ ∧ ∃ ad, sp = some ad ∧ ∀ j v, cs[j]? = some v → w.cell? (ad.add j) = some v)
    (hfit : off + cs.length ≤ cur.length) (h1 : ∀ v ∈ cs, v.oneCell' = true) :
    ∃ w', (Builtin.copy_ #[dT, sT] oT #[.slice dp dLen dCap, .slice sp sLen sCap]).run P w = .ok (goInt cs.length) w' ∧ Blk w' g t (splice cur off cs) ∧ Only g w w' := by
  by_cases h0 : cs.length = 0
  · obtain rfl : cs = [] := List.eq_nil_of_length_eq_zero h0
    refine ⟨w, ?_, by simpa [splice] using hg, rfl, rfl, rfl, rfl, fun _ _ => rfl⟩
    exact run_copy_none (P := P) w dT sT oT elem dp sp dLen dCap sLen sCap hu hsz (by simpa using hn.symm)
  · obtain ⟨rfl, ad, rfl, hsrc⟩ := hpos (by omega)
    refine ⟨_, run_copy_row (P := P) w dT sT oT elem g off dLen dCap ad sLen sCap cur.toArray t cs hu hsz hg hn hsrc (by simpa using hfit) h1, ?_, ?_⟩
    · exact show _ = _ by simpa [splice] using setRow_heap w g _ _ t _ hg
    · exact ⟨rfl, rfl, rfl, by simp [World.setRow], fun k hk => setRow_other w g k _ hk⟩

theorem wp_copy_mz (d s : Operand) (dT sT : TypeId)
    (ho : o.op = .call { callee := .builtin .copy, args := #[d, s], argTypes := #[dT, sT] }) (elem : TypeId) (hu : P.underlying dT = some (.slice elem)) (hsz : (P.info? elem).map (·.size) = some 1)
    (dp sp : Option Addr) (dLen dCap sLen sCap : Nat) (hd : a.eval d = .slice dp dLen dCap) (hs : a.eval s = .slice sp sLen sCap)
    (g off : Nat) (cur : List Value) (t : TypeId) (hg : Blk w g t cur) (cs : List Value) (hn : cs.length = Nat.min sLen dLen)
    (hpos : 0 < cs.length → dp = some ⟨g, off, none⟩ ∧ ∃ ad, sp = some ad ∧ ∀ j v, cs[j]? = some v → w.cell? (ad.add j) = some v)
    (hfit : off + cs.length ≤ cur.length) (h1 : ∀ v ∈ cs, v.oneCell' = true) {K : Act → World → Prop}
    (h : ∀ w', Blk w' g t (splice cur off cs) → Only g w w' → K (a.put o.dst (goInt cs.length)) w') : o.wp P a w K Q := by
  obtain ⟨w', hrun, hB, hO⟩ := run_copy_mz (P := P) (w := w) dT sT o.type elem hu hsz dp sp dLen dCap sLen sCap g off cur t hg cs hn hpos hfit h1
  unfold Oper.wp
  simp [execOp, ho, resolve, invoke, builtin, hd, hs, hrun, Result.andThen]
  exact h w' hB hO

theorem wpList_copy_mz (hgd : o.guard = none) (d s : Operand) (dT sT : TypeId)
    (ho : o.op = .call { callee := .builtin .copy, args := #[d, s], argTypes := #[dT, sT] }) (elem : TypeId) (hu : P.underlying dT = some (.slice elem)) (hsz : (P.info? elem).map (·.size) = some 1)
    (dp sp : Option Addr) (dLen dCap sLen sCap : Nat) (hd : a.eval d = .slice dp dLen dCap) (hs : a.eval s = .slice sp sLen sCap)
    (g off : Nat) (cur : List Value) (t : TypeId) (hg : Blk w g t cur) (cs : List Value) (hn : cs.length = Nat.min sLen dLen)
    (hpos : 0 < cs.length → dp = some ⟨g, off, none⟩ ∧ ∃ ad, sp = some ad ∧ ∀ j v, cs[j]? = some v → w.cell? (ad.add j) = some v)
    (hfit : off + cs.length ≤ cur.length) (h1 : ∀ v ∈ cs, v.oneCell' = true)
    (h : ∀ w', Blk w' g t (splice cur off cs) → Only g w w' → wpList P ops Q rest (a.put o.dst (goInt cs.length)) w') : wpList P ops Q (o :: rest) a w :=
  wpList_plain hgd fun _ hK => wp_copy_mz d s dT sT ho elem hu hsz dp sp dLen dCap sLen sCap hd hs g off cur t hg cs hn hpos hfit h1 fun w' hB hO => hK _ _ (h w' hB hO)

theorem step_copy_mz {K : Act → World → Prop} {E : Prop} (hgd : o.guard = none) (d s : Operand) (dT sT : TypeId)
    (ho : o.op = .call { callee := .builtin .copy, args := #[d, s], argTypes := #[dT, sT] }) (elem : TypeId) (hu : P.underlying dT = some (.slice elem)) (hsz : (P.info? elem).map (·.size) = some 1)
    (dp sp : Option Addr) (dLen dCap sLen sCap : Nat) (hd : a.eval d = .slice dp dLen dCap) (hs : a.eval s = .slice sp sLen sCap)
    (g off : Nat) (cur : List Value) (t : TypeId) (hg : Blk w g t cur) (cs : List Value) (hn : cs.length = Nat.min sLen dLen)
    (hpos : 0 < cs.length → dp = some ⟨g, off, none⟩ ∧ ∃ ad, sp = some ad ∧ ∀ j v, cs[j]? = some v → w.cell? (ad.add j) = some v)
    (hfit : off + cs.length ≤ cur.length) (h1 : ∀ v ∈ cs, v.oneCell' = true)
    (h : ∀ w', Blk w' g t (splice cur off cs) → Only g w w' → K (a.put o.dst (goInt cs.length)) w') :
    if Region.wanted o (yielded ops a.tmps) = true then Oper.wp P o a w K Q else E := by
  have hw : Region.wanted o (yielded ops a.tmps) = true := by simp [Region.wanted, hgd]
  rw [if_pos hw]
  exact wp_copy_mz d s dT sT ho elem hu hsz dp sp dLen dCap sLen sCap hd hs g off cur t hg cs hn hpos hfit h1 h
end

/-- Straight code: it comes to its end, in a state of which R holds. -/
def onNormal (R : Act → World → Prop) : Exit → Act → World → Prop
  | .normal, a, w => R a w
  | _, _, _ => False

theorem wp_of_normal {P : Program} {c : Code} {R : Act → World → Prop} {Q : Exit → Act → World → Prop} {a : Act} {w : World} (h : c.wp P (onNormal R) a w)
    (hR : ∀ a w, R a w → Q .normal a w) : c.wp P Q a w :=
  Code.wp_mono (fun e a w q => by cases e <;> first | exact hR _ _ q | exact q.elim) h

theorem wp_seq_n {P : Program} {x y : Code} {R : Act → World → Prop} {Q : Exit → Act → World → Prop} {a : Act} {w : World} (hx : x.wp P (onNormal R) a w)
    (hy : ∀ a w, R a w → y.wp P Q a w) : (Code.seq x y).wp P Q a w :=
  wp_seq (wp_of_normal hx hy)

theorem wp_if_true {P : Program} {f : Nat → Value} {D : List Deferred} {t : Nat} {x y : Code} {Q : Exit → Act → World → Prop} {w : World} (ht : t < 176) (h : f t = .bool true)
    (hx : x.wp P Q ⟨frame f, D⟩ w) : (Code.cond (.tmp t) x y).wp P Q ⟨frame f, D⟩ w :=
  wp_cond_true (by simp [Act.eval, frame_at, ht, h]) hx
theorem wp_if_false {P : Program} {f : Nat → Value} {D : List Deferred} {t : Nat} {x y : Code} {Q : Exit → Act → World → Prop} {w : World} (ht : t < 176) (h : f t = .bool false)
    (hy : y.wp P Q ⟨frame f, D⟩ w) : (Code.cond (.tmp t) x y).wp P Q ⟨frame f, D⟩ w :=
  wp_cond_false (by simp [Act.eval, frame_at, ht, h]) hy

theorem bool_ne (k : Nat) : Value.bool ((k : Int) != 0) = .bool (decide (k ≠ 0)) := by
  congr 1
  rw [Bool.eq_iff_iff]
  simp
theorem bool_lt {i n : Nat} (_ : 1 ≤ n) : Value.bool (decide ((i : Int) < (n : Int) - 1)) = .bool (decide (i + 1 < n)) := by
  congr 1
  rw [Bool.eq_iff_iff, decide_eq_true_iff, decide_eq_true_iff]
  omega
theorem bool_lt2 {i n : Nat} (_ : 0 ≤ n) : Value.bool (decide ((i : Int) + 1 < (n : Int))) = .bool (decide (i + 1 < n)) := by
  congr 1
  rw [Bool.eq_iff_iff, decide_eq_true_iff, decide_eq_true_iff]
  omega
theorem slice_len {B : Option Addr} {m n c : Nat} (h : m = n) : Value.slice B m c = .slice B n c := by rw [h]

/-- The cells of a head of a block, where a copy looks for them. -/
theorem head_src {w : World} {h : Nat} {src : List Value} (hh : Blk w h 5 src) (i : Nat) : ∀ j v, (src.take i)[j]? = some v → w.cell? ((⟨h, 0, none⟩ : Addr).add j) = some v := by
  intro j v hj
  rw [addr_add0, hh.cell]
  by_cases hji : j < i
  · rw [List.getElem?_take_of_lt hji] at hj; exact hj
  · rw [List.getElem?_eq_none (by rw [List.length_take]; omega)] at hj; cases hj
theorem tail_src {w : World} {h : Nat} {src : List Value} (hh : Blk w h 5 src) (o m : Nat) : ∀ j v, ((src.drop o).take m)[j]? = some v → w.cell? ((⟨h, o, none⟩ : Addr).add j) = some v := by
  intro j v hj
  rw [addr_add, hh.cell]
  by_cases hji : j < m
  · rw [List.getElem?_take_of_lt hji, List.getElem?_drop] at hj; exact hj
  · rw [List.getElem?_eq_none (by rw [List.length_take]; omega)] at hj; cases hj

theorem Only.of_drew {g : Nat} {w w' : World} (h : Only g w.drew w') : Only g w w' := ⟨h.os, h.tape, h.output, h.size, h.block⟩

def lenOf : Value → Nat | .slice _ n _ => n | _ => 0

/-- Slices of the kind []byte: what the table says. -/
theorem info5 : (Try.prog.info? 5).map (fun i => (i.zero, i.size, i.bytes)) = some (some (.int .u8 0), 1, 1) := by kernel_rfl
theorem size5 : (Try.prog.info? 5).map (·.size) = some 1 := by kernel_rfl

end Go.Proofs.Ytganmbbdmoldeaa.Mz
