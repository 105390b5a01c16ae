/-
  How what memory holds turns with each kind of step: a cut, a copy, a store, a new block.
  Conditions: none beside the ones that each theorem states.
-/
import Derived.Test.YtganmbbdmoldeaaMMem
namespace Go.Proofs.Ytganmbbdmoldeaa.Mz
open Go.RowKit

/-! ### Lists -/
theorem splice_at {α : Type} (U x y : List α) (i : Nat) (h : U.take i = x) : splice U i y = x ++ (y ++ U.drop (i + y.length)) := by
  unfold splice; rw [h]

theorem src_take (full v : List Int) (rest : List Value) (i : Nat) (ht : full.take v.length = v) (hi : i ≤ v.length) : (bys full ++ rest).take i = bys (v.take i) := by
  have hl : v.length ≤ full.length := by
    have := congrArg List.length ht
    rw [List.length_take] at this
    omega
  rw [List.take_append_of_le_length (by rw [bys_length]; omega), ← bys_take]
  congr 1
  rw [← ht, List.take_take]
  congr 1
  omega

theorem src_mid (full v : List Int) (rest : List Value) (j : Nat) (ht : full.take v.length = v) :
    ((bys full ++ rest).drop j).take (v.length - j) = bys (v.drop j) := by
  have hl : v.length ≤ full.length := by
    have := congrArg List.length ht
    rw [List.length_take] at this
    omega
  have h1 : ((bys full ++ rest).drop j).take (v.length - j) = ((bys full ++ rest).take v.length).drop j := by
    rw [List.drop_take]
  rw [h1, src_take full v rest v.length ht (Nat.le_refl _), List.take_length, bys_drop]

theorem splice_bys (full : List Int) (rest : List Value) (i : Nat) (y : List Int) (h : i + y.length ≤ full.length) :
    splice (bys full ++ rest) i (bys y) = bys (splice full i y) ++ rest := by
  unfold splice
  rw [List.take_append_of_le_length (by rw [bys_length]; omega), List.drop_append_of_le_length (by rw [bys_length, bys_length]; omega)]
  simp [bys_append, bys_take, bys_drop, bys_length]

theorem splice_take (full v : List Int) (i j : Nat) (ht : full.take v.length = v) (hi : i ≤ j) (hj : j ≤ v.length) : (splice full i (v.drop j)).take (cutOut v i j).length = cutOut v i j := by
  have hv : full.take i = v.take i := by
    have h2 : v.take i = (full.take v.length).take i := by rw [ht]
    rw [h2, List.take_take]; congr 1; omega
  unfold splice cutOut
  rw [hv, ← List.append_assoc, List.take_append_of_le_length (Nat.le_refl _), List.take_length]

theorem Byt.take {v : List Int} (h : Byt v) (m : Nat) : Byt (v.take m) := fun x hx => h x (List.mem_of_mem_take hx)
theorem Byt.cut {v : List Int} (h : Byt v) (i j : Nat) : Byt (cutOut v i j) := by
  intro x hx
  rcases List.mem_append.1 hx with hx | hx
  · exact h x (List.mem_of_mem_take hx)
  · exact h x (List.mem_of_mem_drop hx)
theorem Byt.set_ {v : List Int} (h : Byt v) (i : Nat) {x : Int} (hx : 0 ≤ x ∧ x ≤ 255) : Byt (v.set i x) := by
  intro y hy
  rcases List.mem_or_eq_of_mem_set hy with hy | rfl
  · exact h y hy
  · exact hx
theorem chars_byte (q : Nat) : 0 ≤ chars.getD q 0 ∧ chars.getD q 0 ≤ 255 := by
  by_cases h : q < 32
  · have : ∀ q : Fin 32, 0 ≤ chars.getD q.val 0 ∧ chars.getD q.val 0 ≤ 255 := by decide
    exact this ⟨q, h⟩
  · rw [List.getD_eq_getElem?_getD, List.getElem?_eq_none (by rw [chars_length]; omega)]; decide

/-! ### Memory -/
section
variable {p : Ads} {w0 w w' : World} {n : Nat} {best v : List Int} {tc tc' : List Value}

theorem Only.below {g B : Nat} (h : Only g w w') (hB : B ≤ g) : Below B w w' := ⟨h.os, h.tape, h.output, by rw [h.size]; exact Nat.le_refl _, fun k hk => h.block k (by omega)⟩
theorem Only.blk {g k t : Nat} {cs : List Value} (h : Only g w w') (hb : Blk w k t cs) (hk : k ≠ g) : Blk w' k t cs := (h.block k hk).trans hb

theorem BestIs.move {xs : List Int} (h : BestIs p w xs) (hb : ∀ k, k < w.heap.size → (k = p.bb ∨ (k ≠ p.bv ∧ k ≠ p.bt ∧ k ≠ p.bb ∧ k ≠ p.bn)) → w'.heap[k]? = w.heap[k]?) : BestIs p w' xs := by
  obtain ⟨g, c, rest, h1, h2, h3, h4, h5, h6, h7⟩ := h
  exact ⟨g, c, rest, (hb _ h1.lt (.inl rfl)).trans h1, h2, h3, h4, h5, h6, (hb _ h7.lt (.inr ⟨h2, h3, h4, h5⟩)).trans h7⟩

/-- The slice grows shorter. -/
theorem Mem.cut (h : Mem p w0 w n best v tc) (m : Nat) : Mem p w0 w n best (v.take m) tc := by
  refine { h with vv := ?_, byt := h.byt.take m }
  obtain ⟨full, rest, h1, h2, h3⟩ := h.vv
  refine ⟨full, rest, h1, h2, ?_⟩
  have : (v.take m).length ≤ v.length := List.length_take_le' _ _
  have h4 : full.take (v.take m).length = v.take (v.take m).length := by
    have h5 : v.take (v.take m).length = (full.take v.length).take (v.take m).length := by rw [h3]
    rw [h5, List.take_take]; congr 1; omega
  rw [h4, List.length_take]
  by_cases hm : m ≤ v.length
  · rw [Nat.min_eq_left hm]
  · rw [Nat.min_eq_right (by omega), List.take_length, List.take_of_length_le (by omega)]

/-- The scratch has turned. -/
theorem Mem.tmp (hp : p.Ok) (h : Mem p w0 w n best v tc) (ho : Only p.bt w w') (hb : Blk w' p.bt 5 tc') (hl : tc'.length = p.L) : Mem p w0 w' n best v tc' := by
  obtain ⟨a1, a2, a3, a4, a5, _⟩ := hp
  have hbase := h.base
  refine ⟨h.below.trans (ho.below (by omega)), h.base, ho.blk h.nn (by omega), ho.blk h.kk (by omega), ho.blk h.ss (by omega), ?_, ⟨hb, hl⟩, h.be.move fun k _ hk => ho.block k (by omega), h.byt⟩
  obtain ⟨full, rest, h1, h2, h3⟩ := h.vv
  exact ⟨full, rest, ho.blk h1 (by omega), h2, h3⟩

/-- A part of the slice has gone. -/
theorem Mem.vcut (hp : p.Ok) (h : Mem p w0 w n best v tc) (ho : Only p.bv w w') {full : List Int} {rest : List Value} {i j : Nat} (hij : i ≤ j) (hj : j ≤ v.length) (hl : full.length = p.L) (ht : full.take v.length = v)
    (hb : Blk w' p.bv 5 (splice (bys full ++ rest) i (((bys full ++ rest).drop j).take (v.length - j)))) : Mem p w0 w' n best (cutOut v i j) tc := by
  have hle := h.le
  obtain ⟨a1, a2, a3, a4, a5, _⟩ := hp
  have hbase := h.base
  refine ⟨h.below.trans (ho.below (by omega)), h.base, ho.blk h.nn (by omega), ho.blk h.kk (by omega), ho.blk h.ss (by omega), ?_, ⟨ho.blk h.tt.1 (by omega), h.tt.2⟩, h.be.move fun k _ hk => ho.block k (by omega), h.byt.cut i j⟩
  rw [src_mid full v rest j ht, splice_bys full rest i (v.drop j) (by rw [List.length_drop]; omega)] at hb
  exact ⟨_, _, hb, by rw [length_splice _ _ _ (by rw [List.length_drop]; omega)]; exact hl, splice_take full v i j ht hij hj⟩

/-- A byte of the slice has been set. -/
theorem Mem.vset (hp : p.Ok) (h : Mem p w0 w n best v tc) (i : Nat) {x : Int} (hx : 0 ≤ x ∧ x ≤ 255) : Mem p w0 (w.setCell ⟨p.bv, i, none⟩ (.int .u8 x)) n best (v.set i x) tc := by
  obtain ⟨a1, a2, a3, a4, a5, _⟩ := hp
  have hbase := h.base
  refine ⟨h.below.setCell (by show _ ≤ p.bv; omega) _, h.base, h.nn.far (by show p.bn ≠ p.bv; omega) _, h.kk.far (by show p.bk ≠ p.bv; omega) _, h.ss.far (by show p.bs ≠ p.bv; omega) _, ?_,
    ⟨h.tt.1.far (by show p.bt ≠ p.bv; omega) _, h.tt.2⟩, h.be.move fun k _ hk => Below.heap_setCell _ _ _ _ (by show k ≠ p.bv; omega), h.byt.set_ i hx⟩
  obtain ⟨full, rest, h1, h2, h3⟩ := h.vv
  by_cases hi : i < full.length
  · refine ⟨full.set i x, rest, ?_, by simpa using h2, ?_⟩
    · have := h1.set_ i (.int .u8 x)
      rw [List.set_append_left _ _ (by rw [bys_length]; exact hi), ← bys_set] at this
      exact this
    · rw [List.length_set, List.take_set, h3]
  · refine ⟨full, rest ++ [] |>.set (i - full.length) (.int .u8 x), ?_, h2, ?_⟩
    · have := h1.set_ i (.int .u8 x)
      rw [List.set_append_right _ _ (by rw [bys_length]; omega), bys_length] at this
      simpa using this
    · have hlen := congrArg List.length h3
      rw [List.length_take] at hlen
      rw [List.set_eq_of_length_le (by omega)]
      exact h3

/-- A byte of the slice, read. -/
theorem Mem.cell (h : Mem p w0 w n best v tc) {i : Nat} (hi : i < v.length) : w.cell? ⟨p.bv, i, none⟩ = some (.int .u8 (v.getD i 0)) := by
  obtain ⟨full, rest, h1, h2, h3⟩ := h.vv
  rw [h1.cell]
  have h4 : (bys full ++ rest).take v.length = bys v := by
    rw [src_take full v rest v.length h3 (Nat.le_refl _), List.take_length]
  have h5 : (bys full ++ rest)[i]? = ((bys full ++ rest).take v.length)[i]? := by rw [List.getElem?_take_of_lt hi]
  rw [h5, h4, bys, List.getElem?_map, List.getElem?_eq_getElem hi, List.getD_eq_getElem?_getD, List.getElem?_eq_getElem hi]
  rfl
theorem Mem.free (h : Mem p w0 w n best v tc) (i : Nat) : w.frozen? ⟨p.bv, i, none⟩ = false := by
  obtain ⟨full, rest, h1, _⟩ := h.vv
  exact h1.frozen i

/-- The slice itself is read. -/
theorem Mem.rds (h : Mem p w0 w n best v tc) : RdS w (some ⟨p.bv, 0, none⟩) v := by
  intro _
  refine ⟨_, rfl, fun j u hj => ?_⟩
  have hjl : j < v.length := by have := (List.getElem?_eq_some_iff.1 hj).1; rwa [bys_length] at this
  rw [addr_add0, h.cell hjl, ← hj, bys, List.getElem?_map, List.getElem?_eq_getElem hjl, List.getD_eq_getElem?_getD, List.getElem?_eq_getElem hjl]
  rfl
theorem RdS.take {A : Option Addr} {xs : List Int} (h : RdS w A xs) (m : Nat) : RdS w A (xs.take m) := by
  intro hl
  rw [List.length_take] at hl
  obtain ⟨ad, e, hc⟩ := h (by omega)
  refine ⟨ad, e, fun j u hj => hc j u ?_⟩
  rw [bys_take] at hj
  by_cases hjm : j < m
  · rwa [List.getElem?_take_of_lt hjm] at hj
  · rw [List.getElem?_eq_none (by rw [List.length_take]; omega)] at hj; cases hj

/-- Two copies into the scratch: what is left when the bytes from i up to j go. -/
theorem tmp_two (v : List Int) (tc : List Value) (i j : Nat) (h : tc.take i = bys (v.take i)) :
    splice tc i (bys (v.drop j)) = bys (cutOut v i j) ++ tc.drop (i + (v.drop j).length) := by
  rw [splice_at tc _ _ i h, bys_length, ← List.append_assoc, ← bys_append]
  rfl
theorem tmp_head (v : List Int) (tc : List Value) (i : Nat) (hi : i ≤ v.length) : (splice tc 0 (bys (v.take i))).take i = bys (v.take i) := by
  have e : (bys (v.take i)).length = i := by rw [bys_length, List.length_take]; omega
  unfold splice
  rw [List.take_zero, List.nil_append, List.take_append_of_le_length (by omega), List.take_of_length_le (by omega)]
end

end Go.Proofs.Ytganmbbdmoldeaa.Mz
