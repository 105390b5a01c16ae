/-
  Whether bytes have a part: impl.has, spec.Has, bytes.Equal, and what they tell.
  Conditions: at most 2000 bytes each, each a byte.
-/
import Derived.Test.YtganmbbdmoldeaaMTry
import Derived.Laws.BytesArg
import Derived.BigQuiet
import Derived.Deep.QuietTactic
import Derived.RegionTactic
namespace Go.Proofs.Ytganmbbdmoldeaa.Mz
open Go.RowKit
set_option linter.unusedSimpArgs false

/-! ### Plain -/
def HasAt (all part : List Int) (i : Nat) : Prop := i + part.length ≤ all.length ∧ (all.drop i).take part.length = part
noncomputable def hasB (all part : List Int) : Bool := @decide (∃ i, HasAt all part i) (Classical.propDecidable _)
theorem hasB_true {all part : List Int} {i : Nat} (h : HasAt all part i) : hasB all part = true := by unfold hasB; exact @decide_eq_true _ (Classical.propDecidable _) ⟨i, h⟩
theorem hasB_false {all part : List Int} (h : ∀ i, ¬ HasAt all part i) : hasB all part = false := by unfold hasB; exact @decide_eq_false _ (Classical.propDecidable _) (fun ⟨i, hi⟩ => h i hi)
theorem hasB_of {all part : List Int} (h : hasB all part = true) : ∃ i, HasAt all part i := @of_decide_eq_true _ (Classical.propDecidable _) h

/-! ### A slice as a string -/
theorem RdS.string {w : World} {A : Option Addr} {xs : List Int} (h : RdS w A xs) (c : Nat) : (convert 22 9 (.slice A xs.length c)).run Try.prog w = .ok (.string (strOfNums xs)) w := by
  by_cases hp : 0 < xs.length
  · obtain ⟨ad, rfl, hc⟩ := h hp
    have hl : (loadCells ad xs.length).run Try.prog w = .ok (xs.map (Value.int .u8)).toArray w := by
      have := run_loadCells_list (P := Try.prog) w ad (xs.map (Value.int .u8)) (fun j v hj => hc j v hj)
      simpa using this
    rw [run_convert_bytes_string w 22 9 5 _ _ c Try.underlying22 Try.underlying5 Try.underlying9, run_bytesToString w ad _ c xs hl, foldl_push_bytes]
    simp [strOfNums, ByteArray.empty, ByteArray.emptyWithCapacity]
    rfl
  · obtain rfl : xs = [] := List.eq_nil_of_length_eq_zero (by omega)
    cases A with
    | none => exact run_convert_bytes_nil w 22 5 Try.underlying22 Try.underlying5 0 c 9 Try.underlying9
    | some ad =>
      have hl : (loadCells ad 0).run Try.prog w = .ok (([] : List Int).map (Value.int .u8)).toArray w := by
        have := run_loadCells_list (P := Try.prog) w ad [] (fun j v hj => by simp at hj)
        simpa using this
      rw [run_convert_bytes_string w 22 9 5 _ _ c Try.underlying22 Try.underlying5 Try.underlying9, List.length_nil, run_bytesToString w ad _ c [] hl]
      rfl

theorem map_byte_inj : ∀ {xs ys : List Int}, Byt xs → Byt ys → (xs.map fun n => UInt8.ofNat n.toNat) = (ys.map fun n => UInt8.ofNat n.toNat) → xs = ys
  | [], [], _, _, _ => rfl
  | [], y :: ys, _, _, h => by cases h
  | x :: xs, [], _, _, h => by cases h
  | x :: xs, y :: ys, hx, hy, h => by
    simp only [List.map_cons, List.cons.injEq] at h
    have h1 := hx x (by simp)
    have h2 := hy y (by simp)
    have e := congrArg UInt8.toNat h.1
    rw [UInt8.toNat_ofNat', UInt8.toNat_ofNat'] at e
    have : x = y := by omega
    rw [this, map_byte_inj (fun z hz => hx z (by simp [hz])) (fun z hz => hy z (by simp [hz])) h.2]

theorem str_beq {xs ys : List Int} (hx : Byt xs) (hy : Byt ys) : ((strOfNums xs).toList == (strOfNums ys).toList) = decide (xs = ys) := by
  rw [ByteArray.toList_eq, ByteArray.toList_eq, strOfNums_data, strOfNums_data, Bool.eq_iff_iff, beq_iff_eq, decide_eq_true_iff]
  exact ⟨map_byte_inj hx hy, fun h => by rw [h]⟩

theorem RdS.mid {w : World} {A : Option Addr} {xs : List Int} (h : RdS w A xs) (lo n c : Nat) (hl : lo + n ≤ xs.length) (hc : xs.length ≤ c) :
    RdS w (if c = lo then A else A.map (·.add lo)) ((xs.drop lo).take n) := by
  intro hp
  rw [List.length_take, List.length_drop] at hp
  obtain ⟨ad, rfl, hcell⟩ := h (by omega)
  rw [if_neg (by omega)]
  refine ⟨ad.add lo, rfl, fun j u hj => ?_⟩
  have e : (ad.add lo).add j = ad.add (lo + j) := by
    unfold Addr.add
    by_cases h1 : lo = 0 <;> by_cases h2 : j = 0 <;> simp [h1, h2, Nat.add_assoc]
  rw [e]
  refine hcell _ u ?_
  rw [bys_take, bys_drop] at hj
  by_cases hjn : j < n
  · rw [List.getElem?_take_of_lt hjn, List.getElem?_drop] at hj; exact hj
  · rw [List.getElem?_eq_none (by rw [List.length_take]; omega)] at hj; cases hj

/-- A cut of a slice of bytes, in whatever world. -/
theorem run_mid (A : Option Addr) (n c : Nat) (lo hi : Int) (h0 : 0 ≤ lo) (h1 : lo ≤ hi) (h2 : hi ≤ c) (W : World) :
    (Instr.slice 22 (.slice A n c) (some (.int .i64 lo)) (some (.int .i64 hi)) none).run Try.prog W = .ok (.slice (if c = lo.toNat then A else A.map (·.add lo.toNat)) (hi.toNat - lo.toNat) (c - lo.toNat)) W := by
  obtain ⟨i0, hi0, _, hz1, _⟩ := info_parts info5
  have hel : Try.prog.elem 22 = 5 := by simp [Program.elem, Try.underlying22]
  have hu : Try.prog.underlying 22 = some (.slice (Try.prog.elem 22)) := by rw [hel]; exact Try.underlying22
  rw [run_slice_lh W 22 A n c hu .i64 .i64 lo hi h0 h1 h2, hel]
  simp [sizeOf, typeInfo, hi0, hz1, sliced, Result.andThen]

theorem ret_bool {a b : Bool} (h : a = b) : Ending.returned (.bool a) = Ending.returned (.bool b) := by rw [h]

/-! ### The walks -/
set_option maxHeartbeats 400000 in
theorem has19 (w : World) (xs part : List Int) (A B : Option Addr) (c d : Nat) (hA : RdS w A xs) (hB : RdS w B part) (hc : xs.length ≤ c) (hl : xs.length ≤ 2000) (hp : part.length ≤ 2000) (hx : Byt xs) (hy : Byt part) :
    Calls Try.prog 19 #[.slice A xs.length c, .slice B part.length d] w fun e w' => e = .returned (.bool (hasB xs part)) ∧ ∃ m, w.drewN m = w' := by
  have HA := Lib.hid hA
  have HB := Lib.hid hB
  have HX := Lib.hid hx
  have HY := Lib.hid hy
  clear hA hB hx hy
  go_enter Try.func19, Try.ntmps19
  go_wp2
  go_loopw [5] (fun v w' => ∃ k m : Nat, v = .int .i64 k ∧ w.drewN m = w' ∧ k ≤ 2001 ∧ Hid (∀ j, j < k → ¬ HasAt xs part j)) (fun v _ => 2001 - (intOf v).toNat)
  case atStart => exact ⟨0, 0, rfl, rfl, by omega, fun j hj => by omega⟩
  case round =>
    obtain ⟨k, m, rfl, rfl, hk, hno⟩ := hrel
    by_cases hlt : k + part.length ≤ xs.length
    · have h1 : decide ((k : Int) + (part.length : Int) ≤ (xs.length : Int)) = true := decide_eq_true (by omega)
      have hcut := run_mid A xs.length c (k : Int) ((k : Int) + (part.length : Int)) (by omega) (by omega) (by omega)
      have e1 : ((k : Int) + (part.length : Int)).toNat = k + part.length := by omega
      have e2 : (k : Int).toNat = k := by omega
      rw [e1, e2, Nat.add_sub_cancel_left] at hcut
      have hlen : ((xs.drop k).take part.length).length = part.length := by rw [List.length_take, List.length_drop]; omega
      generalize hA' : (if c = k then A else A.map (·.add k)) = A' at hcut
      have hrd : RdS w A' ((xs.drop k).take part.length) := by rw [← hA']; exact HA.out.mid k part.length c (by omega) hc
      have hc1 : ∀ m', (convert 22 9 (.slice A' part.length (c - k))).run Try.prog (w.drewN m') = .ok (.string (strOfNums ((xs.drop k).take part.length))) (w.drewN m') := by
        intro m'
        have := RdS.string (w := w.drewN m') (A := A') (xs := (xs.drop k).take part.length) hrd (c - k)
        rw [hlen] at this
        exact this
      have hc2 : ∀ m', (convert 22 9 (.slice B part.length d)).run Try.prog (w.drewN m') = .ok (.string (strOfNums part)) (w.drewN m') := fun m' => RdS.string (w := w.drewN m') HB.out d
      have hbeq := str_beq (xs := (xs.drop k).take part.length) (ys := part) (fun z hz => HX.out z (List.mem_of_mem_drop (List.mem_of_mem_take hz))) HY.out
      have ew : IntKind.i64.wrap ((k : Int) + (part.length : Int)) = (k : Int) + (part.length : Int) := IntWalk.i64_in _ (by omega)
      clear hrd hA' e1 e2 hlen
      by_cases hq : (xs.drop k).take part.length = part
      · rw [decide_eq_true hq] at hbeq
        have HQ := Lib.hid hq
        clear hq
        go_wp2
        go_region
        go_wp2
        go_ret
        exact ⟨ret_bool (a := true) (hasB_true ⟨hlt, HQ.out⟩).symm, m + 1, rfl⟩
      · rw [decide_eq_false hq] at hbeq
        have HQ := Lib.hid hq
        clear hq
        go_wp2
        go_region
        go_wp2
        go_roundw
        case rel =>
          refine ⟨k + 1, m + 1, by go_num, rfl, by omega, fun j hj => ?_⟩
          by_cases hjk : j = k
          · rw [hjk]; exact fun hat => HQ.out hat.2
          · exact hno.out j (by omega)
        case measure => simp [intOf]; omega
    · have h1 : decide ((k : Int) + (part.length : Int) ≤ (xs.length : Int)) = false := decide_eq_false (by omega)
      have hfin : hasB xs part = false := hasB_false fun j hat => by
        by_cases hjk : j < k
        · exact hno.out j hjk hat
        · have := hat.1
          omega
      have HFIN := Lib.hid hfin
      clear hfin
      go_wp2
      go_ret
      exact ⟨ret_bool (a := false) HFIN.out.symm, m, rfl⟩

set_option maxHeartbeats 400000 in
theorem has7 (w : World) (xs part : List Int) (A B : Option Addr) (c d : Nat) (hA : RdS w A xs) (hB : RdS w B part) (hc : xs.length ≤ c) (hl : xs.length ≤ 2000) (hp : part.length ≤ 2000) (hx : Byt xs) (hy : Byt part) :
    Calls Try.prog 7 #[.slice A xs.length c, .slice B part.length d] w fun e w' => e = .returned (.bool (hasB xs part)) ∧ ∃ m, w.drewN m = w' := by
  have HA := Lib.hid hA
  have HB := Lib.hid hB
  have HX := Lib.hid hx
  have HY := Lib.hid hy
  clear hA hB hx hy
  go_enter Try.func7, Try.ntmps7
  go_wp2
  go_loopw [5] (fun v w' => ∃ k m : Nat, v = .int .i64 k ∧ w.drewN m = w' ∧ k ≤ 2001 ∧ Hid (∀ j, j < k → ¬ HasAt xs part j)) (fun v _ => 2001 - (intOf v).toNat)
  case atStart => exact ⟨0, 0, rfl, rfl, by omega, fun j hj => by omega⟩
  case round =>
    obtain ⟨k, m, rfl, rfl, hk, hno⟩ := hrel
    by_cases hlt : k + part.length ≤ xs.length
    · have h1 : decide ((k : Int) + (part.length : Int) ≤ (xs.length : Int)) = true := decide_eq_true (by omega)
      have hcut := run_mid A xs.length c (k : Int) ((k : Int) + (part.length : Int)) (by omega) (by omega) (by omega)
      have e1 : ((k : Int) + (part.length : Int)).toNat = k + part.length := by omega
      have e2 : (k : Int).toNat = k := by omega
      rw [e1, e2, Nat.add_sub_cancel_left] at hcut
      have hlen : ((xs.drop k).take part.length).length = part.length := by rw [List.length_take, List.length_drop]; omega
      generalize hA' : (if c = k then A else A.map (·.add k)) = A' at hcut
      have hrd : RdS w A' ((xs.drop k).take part.length) := by rw [← hA']; exact HA.out.mid k part.length c (by omega) hc
      have hc1 : ∀ m', (convert 22 9 (.slice A' part.length (c - k))).run Try.prog (w.drewN m') = .ok (.string (strOfNums ((xs.drop k).take part.length))) (w.drewN m') := by
        intro m'
        have := RdS.string (w := w.drewN m') (A := A') (xs := (xs.drop k).take part.length) hrd (c - k)
        rw [hlen] at this
        exact this
      have hc2 : ∀ m', (convert 22 9 (.slice B part.length d)).run Try.prog (w.drewN m') = .ok (.string (strOfNums part)) (w.drewN m') := fun m' => RdS.string (w := w.drewN m') HB.out d
      have hbeq := str_beq (xs := (xs.drop k).take part.length) (ys := part) (fun z hz => HX.out z (List.mem_of_mem_drop (List.mem_of_mem_take hz))) HY.out
      have ew : IntKind.i64.wrap ((k : Int) + (part.length : Int)) = (k : Int) + (part.length : Int) := IntWalk.i64_in _ (by omega)
      clear hrd hA' e1 e2 hlen
      by_cases hq : (xs.drop k).take part.length = part
      · rw [decide_eq_true hq] at hbeq
        have HQ := Lib.hid hq
        clear hq
        go_wp2
        go_region
        go_wp2
        go_ret
        exact ⟨ret_bool (a := true) (hasB_true ⟨hlt, HQ.out⟩).symm, m + 1, rfl⟩
      · rw [decide_eq_false hq] at hbeq
        have HQ := Lib.hid hq
        clear hq
        go_wp2
        go_region
        go_wp2
        go_roundw
        case rel =>
          refine ⟨k + 1, m + 1, by go_num, rfl, by omega, fun j hj => ?_⟩
          by_cases hjk : j = k
          · rw [hjk]; exact fun hat => HQ.out hat.2
          · exact hno.out j (by omega)
        case measure => simp [intOf]; omega
    · have h1 : decide ((k : Int) + (part.length : Int) ≤ (xs.length : Int)) = false := decide_eq_false (by omega)
      have hfin : hasB xs part = false := hasB_false fun j hat => by
        by_cases hjk : j < k
        · exact hno.out j hjk hat
        · have := hat.1
          omega
      have HFIN := Lib.hid hfin
      clear hfin
      go_wp2
      go_ret
      exact ⟨ret_bool (a := false) HFIN.out.symm, m, rfl⟩

set_option maxHeartbeats 400000 in
theorem equal9 (w : World) (xs ys : List Int) (A B : Option Addr) (c d : Nat) (hA : RdS w A xs) (hB : RdS w B ys) (hx : Byt xs) (hy : Byt ys) :
    Calls Try.prog 9 #[.slice A xs.length c, .slice B ys.length d] w fun e w' => e = .returned (.bool (decide (xs = ys))) ∧ w = w' := by
  have hc1 := hA.string c
  have hc2 := hB.string d
  have hbeq := str_beq hx hy
  have HD := Lib.hid hbeq
  clear hA hB hx hy hbeq
  go_enter Try.func9, Try.ntmps9
  go_wp2
  go_ret
  exact ⟨ret_bool HD.out, rfl⟩

end Go.Proofs.Ytganmbbdmoldeaa.Mz
