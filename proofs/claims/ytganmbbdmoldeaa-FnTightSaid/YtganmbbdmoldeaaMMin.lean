/-
  Minimize (of pub): it returns bytes at which the transition system stops.
  Conditions: what a call of 'keep' does; at most 2000 bytes and 65536 tries; the bytes are wanted at first and no empty bytes are.
-/
import Derived.Test.YtganmbbdmoldeaaMBody
import Derived.Test.YtganmbbdmoldeaaMTry
namespace Go.Proofs.Ytganmbbdmoldeaa.Mz
open Go.RowKit
set_option linter.unusedSimpArgs false

/-- The blocks that Minimize lays ahead of its call of minimizeBytes. -/
theorem call_body (K : List Int → Bool) (fk bp : Nat) (w w1 w2 : World) (b : List Int) (S cap1 cap2 : Nat) (more1 more2 : List Value)
    (hent : ∀ (args : Array Value) (w : World), (callFunc fk args).run Try.prog w = .ok (.enter fk args) w) (hK : KeepC fk bp w K) (h0 : K [] = false) (hb : K b = true)
    (hl : b.length ≤ 2000) (hy : Byt b) (hS : S ≤ 65536)
    (hB1 : Blk w1 ((w.alloc (.cells #[.func (.func fk) #[] #[.pointer (some ⟨bp, 0, none⟩)]] 33)).alloc (.cells #[.int .i64 S] 3)).heap.size 5 (bys b ++ more1)) (hcap1 : b.length ≤ cap1)
    (hg1 : ((w.alloc (.cells #[.func (.func fk) #[] #[.pointer (some ⟨bp, 0, none⟩)]] 33)).alloc (.cells #[.int .i64 S] 3)).grownBy w1 none)
    (hB2 : Blk w2 w1.heap.size 5 (bys b ++ more2)) (hcap2 : b.length ≤ cap2) (hg2 : w1.grownBy w2 none) :
    Calls Try.prog 23 #[.slice (some ⟨w.heap.size + 1 + 1, 0, none⟩) b.length cap1,
        .func (.func 24) #[] #[.pointer (some ⟨w2.heap.size + 1, 0, none⟩), .pointer (some ⟨w.heap.size, 0, none⟩), .pointer (some ⟨w2.heap.size, 0, none⟩)],
        .func (.func 25) #[] #[.pointer (some ⟨w2.heap.size + 1, 0, none⟩), .pointer (some ⟨w.heap.size + 1, 0, none⟩)]]
      ((w2.alloc (.cells #[.slice (some ⟨w1.heap.size, 0, none⟩) b.length cap2] 22)).alloc (.cells #[.int .i64 0] 3))
      fun e w' => e = .returned (.tuple #[]) ∧ ∃ R g c' rest, Reach K S b (.stop R) ∧ Below w.heap.size w w' ∧
        w'.cell? ⟨w2.heap.size, 0, none⟩ = some (.slice (some ⟨g, 0, none⟩) R.length c') ∧ R.length ≤ c' ∧ Blk w' g 5 (bys R ++ rest) := by
  have hs0 : ((w.alloc (.cells #[.func (.func fk) #[] #[.pointer (some ⟨bp, 0, none⟩)]] 33)).alloc (.cells #[.int .i64 S] 3)).heap.size = w.heap.size + 1 + 1 := by simp
  rw [hs0] at hB1
  have hlt1 := hB1.lt
  have hlt2 := hB2.lt
  have hsz2 := hg2.size
  let p : Ads := { bk := w.heap.size, bs := w.heap.size + 1, bv := w.heap.size + 1 + 1, bb := w2.heap.size, bn := w2.heap.size + 1, bt := w2.heap.size + 1 + 1, L := b.length, cv := cap1, S := S, kv := .func (.func fk) #[] #[.pointer (some ⟨bp, 0, none⟩)] }
  have hok : p.Ok := ⟨by show w.heap.size < w.heap.size + 1; omega, by show w.heap.size + 1 < w.heap.size + 1 + 1; omega, by show w.heap.size + 1 + 1 < w2.heap.size; omega, by show w2.heap.size < w2.heap.size + 1; omega,
    by show w2.heap.size + 1 < w2.heap.size + 1 + 1; omega, hl, hcap1, hS⟩
  have hw2 : Below w.heap.size w w2 := (((((Below.refl _ _).alloc (Nat.le_refl _) _).alloc (by simp) _).grown hg1 (by simp; omega) (fun k hk => by cases hk)).grown hg2 (by omega) (fun k hk => by cases hk))
  have hkk : Blk w2 w.heap.size 33 [.func (.func fk) #[] #[.pointer (some ⟨bp, 0, none⟩)]] :=
    (((show Blk (w.alloc _) w.heap.size 33 [_] from heap_alloc_new w _).alloc _).grown hg1 (by simp)).grown hg2 (by simp)
  have hss : Blk w2 (w.heap.size + 1) 3 [.int .i64 S] := by
    have h := heap_alloc_new (w.alloc (.cells #[.func (.func fk) #[] #[.pointer (some ⟨bp, 0, none⟩)]] 33)) (.cells #[.int .i64 (S : Int)] 3)
    have e : (w.alloc (.cells #[.func (.func fk) #[] #[.pointer (some ⟨bp, 0, none⟩)]] 33)).heap.size = w.heap.size + 1 := by simp
    rw [e] at h
    exact ((show Blk _ (w.heap.size + 1) 3 [.int .i64 (S : Int)] from h).grown hg1 (by simp)).grown hg2 (by simp)
  have hE : Entry p w ((w2.alloc (.cells #[.slice (some ⟨w1.heap.size, 0, none⟩) b.length cap2] 22)).alloc (.cells #[.int .i64 0] 3)) b := by
    refine ⟨(hw2.alloc hw2.size _).alloc (by have := hw2.size; simp; omega) _, Nat.le_refl _, ?_, (hkk.alloc _).alloc _, (hss.alloc _).alloc _, ⟨more1, ((hB1.grown hg2 (by simp)).alloc _).alloc _⟩, ?_, hy, ?_, rfl⟩
    · have h := heap_alloc_new (w2.alloc (.cells #[.slice (some ⟨w1.heap.size, 0, none⟩) b.length cap2] 22)) (.cells #[.int .i64 0] 3)
      have e : (w2.alloc (.cells #[.slice (some ⟨w1.heap.size, 0, none⟩) b.length cap2] 22)).heap.size = w2.heap.size + 1 := by simp
      rw [e] at h
      exact h
    · refine ⟨w1.heap.size, cap2, more2, (show Blk (w2.alloc _) w2.heap.size 22 [_] from heap_alloc_new w2 _).alloc _, ?_, ?_, ?_, ?_, hcap2, (hB2.alloc _).alloc _⟩
      · show w1.heap.size ≠ w.heap.size + 1 + 1; omega
      · show w1.heap.size ≠ w2.heap.size + 1 + 1; omega
      · show w1.heap.size ≠ w2.heap.size; omega
      · show w1.heap.size ≠ w2.heap.size + 1; omega
    · show w2.heap.size + 1 + 1 = _
      simp
  refine (mb_calls (p := p) hok (try_calls hok fk bp rfl hent hK h0) stop_calls hb h0 _ hE).mono ?_
  rintro e w' ⟨rfl, R, hR, hbel, g, c', rest, h1, _, _, _, _, h6, h7⟩
  exact ⟨rfl, R, g, c', rest, hR, hbel, h1.cell 0, h6, h7⟩

set_option maxHeartbeats 800000 in
theorem min_calls (K : List Int → Bool) (fk bp : Nat) (w : World) (b : List Int) (A : Option Addr) (c S : Nat)
    (hent : ∀ (args : Array Value) (w : World), (callFunc fk args).run Try.prog w = .ok (.enter fk args) w) (hK : KeepC fk bp w K) (h0 : K [] = false) (hb : K b = true)
    (hr : RdS w A b) (hl : b.length ≤ 2000) (hy : Byt b) (hS : S ≤ 65536) :
    Calls Try.prog 17 #[.slice A b.length c, .func (.func fk) #[] #[.pointer (some ⟨bp, 0, none⟩)], .int .i64 S] w
      fun e w' => ∃ R A' c', e = .returned (.slice A' R.length c') ∧ Reach K S b (.stop R) ∧ RdS w' A' R ∧ R.length ≤ c' ∧ Below w.heap.size w w' := by
  have hpos : 0 < b.length := by
    cases b with
    | nil => rw [h0] at hb; cases hb
    | cons x r => simp
  have HP := Lib.hid hpos
  have HR := Lib.hid hr
  have HB := Lib.hid hb
  have H0 := Lib.hid h0
  have HK := Lib.hid hK
  clear hpos hr hb h0 hK
  go_enter Try.func17, Try.ntmps17
  go_wp2_with (first
    | (at_builtin; refine wpList_nil_append rfl (.const (.slice none 0 0)) (.tmp 10) rfl rfl b A c rfl ((HR.out.alloc _).alloc _) HP.out hl ?_; intro cap1 more1 w1 hB1 hcap1 hg1)
    | (at_builtin; refine wpList_nil_append rfl (.const (.slice none 0 0)) (.tmp 12) rfl rfl b A c rfl (((HR.out.alloc _).alloc _).grown hg1) HP.out hl ?_; intro cap2 more2 w2 hB2 hcap2 hg2))
  refine (call_body K fk bp w w1 w2 b S cap1 cap2 more1 more2 hent HK.out H0.out HB.out hl hy hS hB1 hcap1 hg1 hB2 hcap2 hg2).mono ?_
  clear hB1 hcap1 hg1 hB2 hcap2 hg2 hent
  rintro e w3 ⟨rfl, R, g, c', rest, hR, hbel, hc, hle, hblk⟩
  have HF := Lib.hid (And.intro hR (And.intro hblk.rds (And.intro hle hbel)))
  clear hR hbel hle hblk
  go_wp2_with fail
  go_ret
  exact ⟨R, _, c', rfl, HF.out⟩

end Go.Proofs.Ytganmbbdmoldeaa.Mz
