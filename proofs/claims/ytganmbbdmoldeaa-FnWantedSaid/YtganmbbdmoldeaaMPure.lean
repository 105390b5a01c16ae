/-
  The minimizer as a transition system over lists of numbers, and what every stop of it is like: still wanted and no longer; of which nothing may be left out; just the part.
  Conditions: none beside the ones that each theorem states. No Go and no memory in this text.
-/
namespace Go.Proofs.Ytganmbbdmoldeaa.Mz

/-- The characters that the last phase tries. -/
def chars : List Int := [48, 49, 50, 55, 56, 57, 65, 66, 67, 88, 89, 90, 97, 98, 99, 120, 121, 122, 32, 33, 34, 35, 36, 37, 38, 39, 40, 41, 42, 43, 44, 46]

theorem chars_length : chars.length = 32 := rfl

/-- Where the minimizer stands: at the head of which loop, with which bytes, behind how many tries. -/
inductive St where
  | p1 (k : Nat) (v : List Int) (c : Nat)
  | p1in (k : Nat) (v : List Int) (c : Nat)
  | p2 (i : Nat) (v : List Int) (c : Nat)
  | p3 (i : Nat) (v : List Int) (c : Nat)
  | p3in (i j : Nat) (v : List Int) (c : Nat)
  | p4 (i : Nat) (v : List Int) (c : Nat)
  | p4in (i q : Nat) (v : List Int) (c : Nat)
  | stop (v : List Int)

/-- What is left when the bytes from i up to j go. -/
def cutOut (v : List Int) (i j : Nat) : List Int := v.take i ++ v.drop j

/-- The states that are reached from b, K telling what is wanted, within S tries. -/
inductive Reach (K : List Int → Bool) (S : Nat) (b : List Int) : St → Prop
  | start : Reach K S b (.p1 1024 b 0)
  | p1_in {k v c} : Reach K S b (.p1 k v c) → k ≠ 0 → Reach K S b (.p1in k v c)
  | p1_out {k v c} : Reach K S b (.p1in k v c) → ¬ k < v.length → Reach K S b (.p1 (k / 2) v c)
  | p1_stop {k v c} : Reach K S b (.p1in k v c) → k < v.length → S ≤ c → Reach K S b (.stop v)
  | p1_cut {k v c} : Reach K S b (.p1in k v c) → k < v.length → c < S → K (v.take (v.length - k)) = true → Reach K S b (.p1in k (v.take (v.length - k)) (c + 1))
  | p1_no {k v c} : Reach K S b (.p1in k v c) → k < v.length → c < S → K (v.take (v.length - k)) = false → Reach K S b (.p1 (k / 2) v (c + 1))
  | p2_ {v c} : Reach K S b (.p1 0 v c) → Reach K S b (.p2 0 v c)
  | p2_stop {i v c} : Reach K S b (.p2 i v c) → i + 1 < v.length → S ≤ c → Reach K S b (.stop v)
  | p2_cut {i v c} : Reach K S b (.p2 i v c) → i + 1 < v.length → c < S → K (cutOut v i (i + 1)) = true → Reach K S b (.p2 i (cutOut v i (i + 1)) (c + 1))
  | p2_no {i v c} : Reach K S b (.p2 i v c) → i + 1 < v.length → c < S → K (cutOut v i (i + 1)) = false → Reach K S b (.p2 (i + 1) v (c + 1))
  | p3_ {i v c} : Reach K S b (.p2 i v c) → ¬ i + 1 < v.length → Reach K S b (.p3 0 v c)
  | p3_in {i v c} : Reach K S b (.p3 i v c) → i + 1 < v.length → Reach K S b (.p3in i v.length v c)
  | p3_stop {i j v c} : Reach K S b (.p3in i j v c) → i + 1 < j → S ≤ c → Reach K S b (.stop v)
  | p3_cut {i j v c} : Reach K S b (.p3in i j v c) → i + 1 < j → c < S → K (cutOut v i j) = true → Reach K S b (.p3in i ((cutOut v i j).length - 1) (cutOut v i j) (c + 1))
  | p3_no {i j v c} : Reach K S b (.p3in i j v c) → i + 1 < j → c < S → K (cutOut v i j) = false → Reach K S b (.p3in i (j - 1) v (c + 1))
  | p3_out {i j v c} : Reach K S b (.p3in i j v c) → ¬ i + 1 < j → Reach K S b (.p3 (i + 1) v c)
  | p4_ {i v c} : Reach K S b (.p3 i v c) → ¬ i + 1 < v.length → Reach K S b (.p4 0 v c)
  | p4_stop {i v c} : Reach K S b (.p4 i v c) → i < v.length → S ≤ c → Reach K S b (.stop v)
  | p4_in {i v c} : Reach K S b (.p4 i v c) → i < v.length → c < S → Reach K S b (.p4in i 0 v c)
  | p4_yes {i q v c} : Reach K S b (.p4in i q v c) → q < 32 → K (v.set i (chars.getD q 0)) = true → Reach K S b (.p4 (i + 1) (v.set i (chars.getD q 0)) (c + 1))
  | p4_no {i q v c} : Reach K S b (.p4in i q v c) → q < 32 → K (v.set i (chars.getD q 0)) = false → Reach K S b (.p4in i (q + 1) v (c + 1))
  | p4_out {i q v c} : Reach K S b (.p4in i q v c) → ¬ q < 32 → Reach K S b (.p4 (i + 1) v c)
  | done {i v c} : Reach K S b (.p4 i v c) → ¬ i < v.length → Reach K S b (.stop v)

theorem cutOut_length (v : List Int) (i j : Nat) (hi : i ≤ v.length) (hj : j ≤ v.length) : (cutOut v i j).length = v.length - j + i := by
  simp [cutOut]; omega

/-! ### Whatever makes bytes wanted -/

/-- What holds at every state: the bytes are wanted and no longer than at first; and the counts that the walk wants. -/
def Wtd (K : List Int → Bool) (S : Nat) (b : List Int) : St → Prop
  | .p1 k v c => K v = true ∧ v.length ≤ b.length ∧ c ≤ S ∧ k ≤ 1024
  | .p1in k v c => K v = true ∧ v.length ≤ b.length ∧ c ≤ S ∧ k ≤ 1024 ∧ k ≠ 0
  | .p2 _ v c => K v = true ∧ v.length ≤ b.length ∧ c ≤ S
  | .p3 _ v c => K v = true ∧ v.length ≤ b.length ∧ c ≤ S
  | .p3in i j v c => K v = true ∧ v.length ≤ b.length ∧ c ≤ S ∧ j ≤ v.length ∧ (i < v.length ∨ ¬ i + 1 < j)
  | .p4 _ v c => K v = true ∧ v.length ≤ b.length ∧ c ≤ S + 32
  | .p4in i q v c => K v = true ∧ v.length ≤ b.length ∧ c < S + q ∧ i < v.length ∧ q ≤ 32
  | .stop v => K v = true ∧ v.length ≤ b.length

theorem Reach.wtd {K : List Int → Bool} {S : Nat} {b : List Int} (hb : K b = true) {s : St} (h : Reach K S b s) : Wtd K S b s := by
  induction h with
  | start => exact ⟨hb, Nat.le_refl _, Nat.zero_le _, Nat.le_refl _⟩
  | p1_in _ hk ih => obtain ⟨h1, h2, h3, h4⟩ := ih; exact ⟨h1, h2, h3, h4, hk⟩
  | p1_out _ hk ih => obtain ⟨h1, h2, h3, h4, h5⟩ := ih; exact ⟨h1, h2, h3, by omega⟩
  | p1_stop _ _ _ ih => exact ⟨ih.1, ih.2.1⟩
  | p1_cut _ hk hc hK ih => obtain ⟨h1, h2, h3, h4, h5⟩ := ih; exact ⟨hK, by rw [List.length_take]; omega, by omega, h4, h5⟩
  | p1_no _ hk hc hK ih => obtain ⟨h1, h2, h3, h4, h5⟩ := ih; exact ⟨h1, h2, by omega, by omega⟩
  | p2_ _ ih => exact ⟨ih.1, ih.2.1, ih.2.2.1⟩
  | p2_stop _ _ _ ih => exact ⟨ih.1, ih.2.1⟩
  | p2_cut _ hi hc hK ih => obtain ⟨h1, h2, h3⟩ := ih; exact ⟨hK, by rw [cutOut_length _ _ _ (by omega) (by omega)]; omega, by omega⟩
  | p2_no _ hi hc hK ih => obtain ⟨h1, h2, h3⟩ := ih; exact ⟨h1, h2, by omega⟩
  | p3_ _ _ ih => exact ih
  | p3_in _ hi ih => obtain ⟨h1, h2, h3⟩ := ih; exact ⟨h1, h2, h3, Nat.le_refl _, .inl (by omega)⟩
  | p3_stop _ _ _ ih => exact ⟨ih.1, ih.2.1⟩
  | @p3_cut i j v c _ hi hc hK ih =>
    obtain ⟨h1, h2, h3, h4, h5⟩ := ih
    have hl := cutOut_length v i j (by omega) (by omega)
    exact ⟨hK, by omega, by omega, by omega, by omega⟩
  | p3_no _ hi hc hK ih => obtain ⟨h1, h2, h3, h4, h5⟩ := ih; exact ⟨h1, h2, by omega, by omega, by omega⟩
  | p3_out _ _ ih => exact ⟨ih.1, ih.2.1, ih.2.2.1⟩
  | p4_ _ _ ih => obtain ⟨h1, h2, h3⟩ := ih; exact ⟨h1, h2, by omega⟩
  | p4_stop _ _ _ ih => exact ⟨ih.1, ih.2.1⟩
  | p4_in _ hi hc ih => obtain ⟨h1, h2, h3⟩ := ih; exact ⟨h1, h2, by omega, hi, by omega⟩
  | p4_yes _ hq hK ih => obtain ⟨h1, h2, h3, h4, h5⟩ := ih; exact ⟨hK, by simpa using h2, by omega⟩
  | p4_no _ hq hK ih => obtain ⟨h1, h2, h3, h4, h5⟩ := ih; exact ⟨h1, h2, by omega, h4, by omega⟩
  | p4_out _ _ ih => obtain ⟨h1, h2, h3, h4, h5⟩ := ih; exact ⟨h1, h2, by omega⟩
  | done _ _ ih => exact ⟨ih.1, ih.2.1⟩

/-! ### Bytes of which none may be left out -/

/-- The last byte may not be left out. -/
def TailMin (K : List Int → Bool) (v : List Int) : Prop := v.length ≤ 1 ∨ K (v.take (v.length - 1)) = false

/-- No one byte may be left out. -/
def OneMin (K : List Int → Bool) (v : List Int) : Prop := ∀ i, i < v.length → K (cutOut v i (i + 1)) = false

/-- Wanted stays wanted where bytes come in; nothing is wanted of nothing; a byte below 128 helps nowhere. -/
structure Rowish (K : List Int → Bool) : Prop where
  mono : ∀ x y : List Int, x.Sublist y → K x = true → K y = true
  none : K [] = false
  low : ∀ (v : List Int) (i : Nat) (x : Int), x < 128 → i < v.length → K (v.set i x) = true → K (cutOut v i (i + 1)) = true

theorem Rowish.anti {K : List Int → Bool} (h : Rowish K) {x y : List Int} (hs : x.Sublist y) (hy : K y = false) : K x = false := by
  cases hx : K x with
  | false => rfl
  | true => rw [h.mono x y hs hx] at hy; cases hy

theorem take_sub_take (l : List Int) {m n : Nat} (h : m ≤ n) : (l.take m).Sublist (l.take n) := by
  have : l.take m = (l.take n).take m := by rw [List.take_take, Nat.min_eq_left h]
  rw [this]; exact List.take_sublist _ _
theorem drop_sub_drop (l : List Int) {m n : Nat} (h : m ≤ n) : (l.drop n).Sublist (l.drop m) := by
  have : l.drop n = (l.drop m).drop (n - m) := by rw [List.drop_drop]; congr 1; omega
  rw [this]; exact List.drop_sublist _ _

theorem cutOut_sub (v : List Int) {i j i' j' : Nat} (hi : i ≤ i') (hj : j' ≤ j) : (cutOut v i j).Sublist (cutOut v i' j') :=
  List.Sublist.append (take_sub_take v hi) (drop_sub_drop v hj)

theorem cutOut_self (v : List Int) (i : Nat) : cutOut v i i = v := by simp [cutOut]

/-- One byte out of what has lost another: a part of what has lost that one alone. -/
theorem cutOut_twice (v : List Int) {i j : Nat} (hj : j < i) (hi : i < v.length) : (cutOut (cutOut v i (i + 1)) j (j + 1)).Sublist (cutOut v j (j + 1)) := by
  have h1 : (cutOut v i (i + 1)).take j = v.take j := by
    unfold cutOut
    rw [List.take_append_of_le_length (by simp; omega), List.take_take, Nat.min_eq_left (by omega)]
  have h2 : ((cutOut v i (i + 1)).drop (j + 1)).Sublist (v.drop (j + 1)) := by
    have : (cutOut v i (i + 1)).Sublist (cutOut v i i) := cutOut_sub v (Nat.le_refl _) (by omega)
    rw [cutOut_self] at this
    exact this.drop (j + 1)
  show ((cutOut v i (i + 1)).take j ++ (cutOut v i (i + 1)).drop (j + 1)).Sublist (v.take j ++ v.drop (j + 1))
  rw [h1]
  exact List.Sublist.append (List.Sublist.refl _) h2

theorem cutOut_take (v : List Int) {i : Nat} (hi : i + 1 < v.length) : ((cutOut v i (i + 1)).take ((cutOut v i (i + 1)).length - 1)).Sublist (v.take (v.length - 1)) := by
  have hl := cutOut_length v i (i + 1) (by omega) (by omega)
  have h2 : (cutOut v i (i + 1)).take ((cutOut v i (i + 1)).length - 1) = v.take i ++ (v.drop (i + 1)).take (v.length - (i + 1) - 1) := by
    rw [hl]
    unfold cutOut
    rw [List.take_append]
    congr 1
    · rw [List.take_take]; congr 1; omega
    · congr 1; simp; omega
  have h3 : v.take (v.length - 1) = v.take i ++ (v.drop i).take (v.length - 1 - i) := by
    have : v.length - 1 = i + (v.length - 1 - i) := by omega
    rw [this, List.take_add]; congr 2; omega
  rw [h2, h3]
  refine List.Sublist.append (List.Sublist.refl _) ?_
  have h4 : (v.drop i).take (v.length - 1 - i) = (v.drop i).take 1 ++ ((v.drop i).drop 1).take (v.length - 1 - i - 1) := by
    have : v.length - 1 - i = 1 + (v.length - 1 - i - 1) := by omega
    conv => lhs; rw [this, List.take_add]
  rw [h4, List.drop_drop]
  have h5 : v.length - (i + 1) - 1 = v.length - 1 - i - 1 := by omega
  rw [h5]
  exact List.sublist_append_right _ _

/-- What holds at every state where there are tries enough. -/
def Tgt (K : List Int → Bool) (b : List Int) : St → Prop
  | .p1 k v c => K v = true ∧ v.length ≤ b.length ∧ (∃ m, m ≤ 11 ∧ k = 1024 / 2 ^ m ∧ c + v.length ≤ b.length + m) ∧ (k = 0 → TailMin K v)
  | .p1in k v c => K v = true ∧ v.length ≤ b.length ∧ (∃ m, m ≤ 10 ∧ k = 1024 / 2 ^ m ∧ c + v.length ≤ b.length + m)
  | .p2 i v c => K v = true ∧ v.length ≤ b.length ∧ c + v.length ≤ b.length + 11 + i ∧ TailMin K v ∧ (∀ j, j < i → j < v.length → K (cutOut v j (j + 1)) = false)
  | .p3 _ v _ => K v = true ∧ OneMin K v
  | .p3in _ j v _ => K v = true ∧ OneMin K v ∧ j ≤ v.length
  | .p4 _ v _ => K v = true ∧ OneMin K v
  | .p4in i _ v _ => K v = true ∧ OneMin K v ∧ i < v.length
  | .stop v => K v = true ∧ OneMin K v

theorem pow_split (m : Nat) (hm : m ≤ 11) : 1024 / 2 ^ m = 0 → m = 11 := by
  intro h
  have : m = 0 ∨ m = 1 ∨ m = 2 ∨ m = 3 ∨ m = 4 ∨ m = 5 ∨ m = 6 ∨ m = 7 ∨ m = 8 ∨ m = 9 ∨ m = 10 ∨ m = 11 := by omega
  rcases this with rfl | rfl | rfl | rfl | rfl | rfl | rfl | rfl | rfl | rfl | rfl | rfl <;> simp_all
theorem half_pow (m : Nat) : 1024 / 2 ^ m / 2 = 1024 / 2 ^ (m + 1) := by rw [Nat.div_div_eq_div_mul, Nat.pow_succ]
theorem chars_low (q : Nat) : chars.getD q 0 < 128 := by
  by_cases h : q < 32
  · have : ∀ q : Fin 32, chars.getD q.val 0 < 128 := by decide
    exact this ⟨q, h⟩
  · rw [List.getD_eq_getElem?_getD, List.getElem?_eq_none (by rw [chars_length]; omega)]; decide

theorem Reach.tgt {K : List Int → Bool} {S : Nat} {b : List Int} (hR : Rowish K) (hb : K b = true) (hS : 2 * b.length + 64 ≤ S) {s : St} (h : Reach K S b s) : Tgt K b s := by
  induction h with
  | start => exact ⟨hb, Nat.le_refl _, ⟨0, by omega, by simp, by omega⟩, by omega⟩
  | p1_in _ hk ih =>
    obtain ⟨h1, h2, ⟨m, hm, rfl, h4⟩, _⟩ := ih
    refine ⟨h1, h2, m, ?_, rfl, h4⟩
    by_cases e : m = 11
    · subst e; exact absurd rfl hk
    · omega
  | p1_out _ hk ih =>
    obtain ⟨h1, h2, m, hm, rfl, h4⟩ := ih
    refine ⟨h1, h2, ⟨m + 1, by omega, half_pow m, by omega⟩, fun h0 => .inl ?_⟩
    rw [half_pow] at h0
    have := pow_split (m + 1) (by omega) h0
    obtain rfl : m = 10 := by omega
    have : 1024 / 2 ^ 10 = 1 := by decide
    omega
  | p1_stop _ hk hc ih => obtain ⟨h1, h2, m, hm, rfl, h4⟩ := ih; omega
  | p1_cut _ hk hc hK ih => obtain ⟨h1, h2, m, hm, rfl, h4⟩ := ih; exact ⟨hK, by rw [List.length_take]; omega, m, hm, rfl, by
      have : 0 < 1024 / 2 ^ m := by
        rcases Nat.eq_zero_or_pos (1024 / 2 ^ m) with h0 | h0
        · have := pow_split m (by omega) h0; omega
        · exact h0
      rw [List.length_take]; omega⟩
  | p1_no _ hk hc hK ih =>
    obtain ⟨h1, h2, m, hm, rfl, h4⟩ := ih
    refine ⟨h1, h2, ⟨m + 1, by omega, half_pow m, by omega⟩, fun h0 => .inr ?_⟩
    rw [half_pow] at h0
    have := pow_split (m + 1) (by omega) h0
    obtain rfl : m = 10 := by omega
    have e : 1024 / 2 ^ 10 = 1 := by decide
    rw [e] at hK
    exact hK
  | p2_ _ ih =>
    obtain ⟨h1, h2, ⟨m, hm, h3, h4⟩, h5⟩ := ih
    exact ⟨h1, h2, by omega, h5 rfl, fun j hj => by omega⟩
  | p2_stop _ hi hc ih => obtain ⟨h1, h2, h3, _⟩ := ih; omega
  | @p2_cut i v c _ hi hc hK ih =>
    obtain ⟨h1, h2, h3, h4, h5⟩ := ih
    have hl := cutOut_length v i (i + 1) (by omega) (by omega)
    refine ⟨hK, by omega, by omega, ?_, fun j hj hj' => hR.anti (cutOut_twice v hj (by omega)) (h5 j hj (by omega))⟩
    rcases h4 with h4 | h4
    · omega
    · exact .inr (hR.anti (cutOut_take v hi) h4)
  | @p2_no i v c _ hi hc hK ih =>
    obtain ⟨h1, h2, h3, h4, h5⟩ := ih
    refine ⟨h1, h2, by omega, h4, fun j hj hj' => ?_⟩
    by_cases e : j = i
    · subst e; exact hK
    · exact h5 j (by omega) hj'
  | @p3_ i v c _ hi ih =>
    obtain ⟨h1, h2, h3, h4, h5⟩ := ih
    refine ⟨h1, fun j hj => ?_⟩
    by_cases e : j < i
    · exact h5 j e hj
    · have hj' : j = v.length - 1 := by omega
      have e2 : cutOut v j (j + 1) = v.take (v.length - 1) := by
        unfold cutOut; rw [List.drop_of_length_le (by omega), List.append_nil, hj']
      rw [e2]
      rcases h4 with h4 | h4
      · have : v.take (v.length - 1) = [] := by
          have : v.length - 1 = 0 := by omega
          rw [this]; rfl
        rw [this]; exact hR.none
      · exact h4
  | p3_in _ hi ih => exact ⟨ih.1, ih.2, Nat.le_refl _⟩
  | p3_stop _ _ _ ih => exact ⟨ih.1, ih.2.1⟩
  | @p3_cut i j v c _ hi hc hK ih =>
    obtain ⟨h1, h2, h3⟩ := ih
    have hno := hR.anti (cutOut_sub v (i := i) (j := j) (i' := i) (j' := i + 1) (Nat.le_refl _) (by omega)) (h2 i (by omega))
    rw [hno] at hK; cases hK
  | p3_no _ hi hc hK ih => obtain ⟨h1, h2, h3⟩ := ih; exact ⟨h1, h2, by omega⟩
  | p3_out _ _ ih => exact ⟨ih.1, ih.2.1⟩
  | p4_ _ _ ih => exact ih
  | p4_stop _ _ _ ih => exact ih
  | p4_in _ hi _ ih => exact ⟨ih.1, ih.2, hi⟩
  | @p4_yes i q v c _ hq hK ih =>
    obtain ⟨h1, h2, h3⟩ := ih
    have := hR.low v i _ (chars_low q) h3 hK
    rw [h2 i h3] at this; cases this
  | p4_no _ hq hK ih => exact ih
  | p4_out _ _ ih => exact ⟨ih.1, ih.2.1⟩
  | done _ _ ih => exact ih

/-! ### Bytes that have a part -/

/-- Wanted: the part stands there, in one piece; bytes that end in the part have it. -/
structure Partish (K : List Int → Bool) (part : List Int) : Prop where
  pos : 0 < part.length
  ends : ∀ x : List Int, K (x ++ part) = true
  long : ∀ x : List Int, K x = true → part.length ≤ x.length
  same : ∀ x : List Int, K x = true → x.length = part.length → x = part
  tail : ∀ x : List Int, K x = true → TailMin K x → ∃ y, x = y ++ part

/-- What holds at every state where there are tries enough. -/
def Prt (K : List Int → Bool) (part b : List Int) : St → Prop
  | .p1 k v c => K v = true ∧ v.length ≤ b.length ∧ (∃ m, m ≤ 11 ∧ k = 1024 / 2 ^ m ∧ c + v.length ≤ b.length + m) ∧ (k = 0 → TailMin K v)
  | .p1in k v c => K v = true ∧ v.length ≤ b.length ∧ (∃ m, m ≤ 10 ∧ k = 1024 / 2 ^ m ∧ c + v.length ≤ b.length + m)
  | .p2 i v c => v.length ≤ b.length ∧ c + v.length ≤ b.length + 11 + i ∧ (∃ y, v = y ++ part) ∧ (i = 0 ∨ v = part)
  | .p3 _ v _ => v = part
  | .p3in i j v _ => v = part ∧ j ≤ v.length ∧ (i < v.length ∨ ¬ i + 1 < j)
  | .p4 _ v _ => v = part
  | .p4in _ _ v _ => v = part
  | .stop v => v = part

theorem Reach.prt {K : List Int → Bool} {part : List Int} {S : Nat} {b : List Int} (hR : Partish K part) (hb : K b = true) (hS : 2 * b.length + 64 ≤ S) {s : St} (h : Reach K S b s) : Prt K part b s := by
  induction h with
  | start => exact ⟨hb, Nat.le_refl _, ⟨0, by omega, by simp, by omega⟩, by omega⟩
  | p1_in _ hk ih =>
    obtain ⟨h1, h2, ⟨m, hm, rfl, h4⟩, _⟩ := ih
    refine ⟨h1, h2, m, ?_, rfl, h4⟩
    by_cases e : m = 11
    · subst e; exact absurd rfl hk
    · omega
  | p1_out _ hk ih =>
    obtain ⟨h1, h2, m, hm, rfl, h4⟩ := ih
    refine ⟨h1, h2, ⟨m + 1, by omega, half_pow m, by omega⟩, fun h0 => .inl ?_⟩
    rw [half_pow] at h0
    have := pow_split (m + 1) (by omega) h0
    obtain rfl : m = 10 := by omega
    have : 1024 / 2 ^ 10 = 1 := by decide
    omega
  | p1_stop _ hk hc ih => obtain ⟨h1, h2, m, hm, rfl, h4⟩ := ih; omega
  | p1_cut _ hk hc hK ih => obtain ⟨h1, h2, m, hm, rfl, h4⟩ := ih; exact ⟨hK, by rw [List.length_take]; omega, m, hm, rfl, by
      have : 0 < 1024 / 2 ^ m := by
        rcases Nat.eq_zero_or_pos (1024 / 2 ^ m) with h0 | h0
        · have := pow_split m (by omega) h0; omega
        · exact h0
      rw [List.length_take]; omega⟩
  | p1_no _ hk hc hK ih =>
    obtain ⟨h1, h2, m, hm, rfl, h4⟩ := ih
    refine ⟨h1, h2, ⟨m + 1, by omega, half_pow m, by omega⟩, fun h0 => .inr ?_⟩
    rw [half_pow] at h0
    have := pow_split (m + 1) (by omega) h0
    obtain rfl : m = 10 := by omega
    have e : 1024 / 2 ^ 10 = 1 := by decide
    rw [e] at hK
    exact hK
  | p2_ _ ih =>
    obtain ⟨h1, h2, ⟨m, hm, h3, h4⟩, h5⟩ := ih
    exact ⟨h2, by omega, hR.tail _ h1 (h5 rfl), .inl rfl⟩
  | p2_stop _ hi hc ih => obtain ⟨h2, h3, _⟩ := ih; omega
  | @p2_cut i v c _ hi hc hK ih =>
    obtain ⟨h2, h3, ⟨y, hy⟩, h5⟩ := ih
    have hl := cutOut_length v i (i + 1) (by omega) (by omega)
    have hlong := hR.long _ hK
    rcases h5 with rfl | rfl
    · refine ⟨by omega, by omega, ⟨y.drop 1, ?_⟩, .inl rfl⟩
      have : y.length ≠ 0 := by
        intro h0
        have := congrArg List.length hy
        rw [List.length_append] at this
        omega
      rw [hy]; simp only [cutOut, List.take_zero, List.nil_append]
      rw [List.drop_append_of_le_length (by omega)]
    · omega
  | @p2_no i v c _ hi hc hK ih =>
    obtain ⟨h2, h3, ⟨y, hy⟩, h5⟩ := ih
    refine ⟨h2, by omega, ⟨y, hy⟩, .inr ?_⟩
    rcases h5 with rfl | h5
    · cases y with
      | nil => simpa using hy
      | cons a t =>
        rw [hy] at hK
        simp only [cutOut, List.take_zero, List.nil_append, List.cons_append, List.drop_succ_cons, List.drop_zero] at hK
        rw [hR.ends t] at hK; cases hK
    · exact h5
  | @p3_ i v c _ hi ih =>
    obtain ⟨h2, h3, ⟨y, hy⟩, h5⟩ := ih
    rcases h5 with rfl | h5
    · have hl := congrArg List.length hy
      rw [List.length_append] at hl
      have := hR.pos
      have : y.length = 0 := by omega
      rw [List.eq_nil_of_length_eq_zero this] at hy
      exact hy
    · exact h5
  | p3_in _ hi ih => exact ⟨ih, Nat.le_refl _, .inl (by omega)⟩
  | p3_stop _ _ _ ih => exact ih.1
  | @p3_cut i j v c _ hi hc hK ih =>
    obtain ⟨h1, h2, h3⟩ := ih
    have hl := cutOut_length v i j (by omega) (by omega)
    have := hR.long _ hK
    rw [h1] at hl h2 h3 this
    omega
  | p3_no _ hi hc hK ih => obtain ⟨h1, h2, h3⟩ := ih; exact ⟨h1, by omega, by omega⟩
  | p3_out _ _ ih => exact ih.1
  | p4_ _ _ ih => exact ih
  | p4_stop _ _ _ ih => exact ih
  | p4_in _ hi _ ih => exact ih
  | @p4_yes i q v c _ hq hK ih =>
    have ih : v = part := ih
    subst ih
    exact hR.same _ hK (by simp)
  | p4_no _ hq hK ih => exact ih
  | p4_out _ _ ih => exact ih
  | done _ _ ih => exact ih

end Go.Proofs.Ytganmbbdmoldeaa.Mz
