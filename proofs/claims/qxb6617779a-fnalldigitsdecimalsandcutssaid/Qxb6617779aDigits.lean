import Derived.Test.Qxb6617779aRows
import Derived.WalkKit
import Derived.WalkSpells
import Derived.WalkLawsBesides
import Derived.Laws.BytesArg
namespace Go.Proofs.Qxb6617779a
open Go.RowKit

namespace Dig

/-- one byte is one of the ten digits -/
def isDig (c : UInt8) : Bool := decide (48 ≤ (c.toNat : Int) ∧ (c.toNat : Int) ≤ 57)

/-- a text is one digit or more -/
def ad (l : List UInt8) : Bool := !l.isEmpty && l.all isDig

theorem take_snoc (s : ByteArray) (k : Nat) (h : k < s.size) : s.data.toList.take (k + 1) = s.data.toList.take k ++ [s[k]] := by
  rw [List.take_succ_eq_append_getElem (by simpa using h)]; rfl

theorem ret_bool {a b : Bool} (h : a = b) : Ending.returned (.bool a) = .returned (.bool b) := by rw [h]

theorem ad_no (s : ByteArray) (k : Nat) (h : k < s.size) (hd : isDig s[k] = false) : ad s.data.toList = false := by
  unfold ad
  have hm : s[k] ∈ s.data.toList := by
    show s.data[k] ∈ s.data.toList
    exact Array.getElem_mem_toList _
  cases he : s.data.toList.all isDig with
  | false => simp
  | true => rw [List.all_eq_true] at he; rw [he _ hm] at hd; cases hd

set_option maxHeartbeats 400000 in
theorem allDigits_any (s : ByteArray) (w : World) (hs : s.size ≤ maxLen) :
    Calls Try.prog 13 #[.string s] w fun e w' => e = .returned (.bool (ad s.data.toList)) ∧ w' = w := by
  unfold maxLen at hs
  cases he : s.toList.isEmpty with
  | true =>
    go_enter Try.func13, Try.ntmps13
    go_wp2
    go_ret
    rw [ByteArray.toList_eq] at he
    exact ⟨ret_bool (by simp [ad, he]), rfl⟩
  | false =>
    go_enter Try.func13, Try.ntmps13
    go_wp2
    go_loop [8] (fun i => ∃ k : Nat, k ≤ s.size ∧ i = .int .i64 k ∧ (s.data.toList.take k).all isDig = true) (fun i => s.size - (intOf i).toNat)
    case atStart => exact ⟨0, Nat.zero_le _, rfl, rfl⟩
    case round =>
      obtain ⟨k, hk, rfl, hall⟩ := hrel
      have HA : Hid ((s.data.toList.take k).all isDig = true) := hall
      clear hall
      by_cases hlt : k < s.size
      · go_wp2
        · go_ret
          exact ⟨ret_bool (ad_no s k hlt (by simp only [isDig, decide_eq_false_iff_not]; omega)).symm, rfl⟩
        · go_round
          case rel => exact ⟨k + 1, by omega, by go_num, by rw [take_snoc s k hlt, List.all_append, HA.out]; simp only [isDig, List.all_cons, List.all_nil, Bool.true_and, Bool.and_true, decide_eq_true_eq]; omega⟩
          case measure => simp [intOf]; omega
        · go_ret
          exact ⟨ret_bool (ad_no s k hlt (by simp only [isDig, decide_eq_false_iff_not]; omega)).symm, rfl⟩
      · go_wp2
        go_ret
        refine ⟨ret_bool ?_, rfl⟩
        have h1 := HA.out
        rw [List.take_of_length_le (by simp; omega)] at h1
        rw [ByteArray.toList_eq] at he
        simp [ad, he, h1]

theorem zzAllDigits_any (s : ByteArray) (w : World) (hs : s.size ≤ maxLen) :
    Calls Try.prog 8 #[.string s] w fun e w' => e = .returned (.bool (ad s.data.toList)) ∧ w' = w := by
  go_enter Try.func8, Try.ntmps8
  go_wp2_with (go_at_call 13; refine (allDigits_any _ _ hs).mono ?_; rintro e w' ⟨rfl, rfl⟩)
  go_ret
  exact ⟨rfl, rfl⟩

/-- ten to the k -/
def p10 : Nat → Int
  | 0 => 1
  | k + 1 => 10 * p10 k

theorem p10_20 : p10 20 = 100000000000000000000 := by decide

/-- the array of 20 that zzDecimal fills from its end: cells from k on hold digits -/
def Buf (w wr : World) (k : Nat) : Prop :=
  (∃ g : Nat → Int, (∀ i, i < 20 → wr.cell? ⟨w.heap.size, i, none⟩ = some (.int .u8 (g i))) ∧ (∀ i, k ≤ i → i < 20 → 48 ≤ g i ∧ g i ≤ 57)) ∧
  (∀ i, wr.frozen? ⟨w.heap.size, i, none⟩ = false) ∧ Below w.heap.size w wr ∧ w.heap.size < wr.heap.size

theorem cells5 : Try.prog.cellsOf 5 = 1 := by kernel_rfl
theorem size5 : ∀ w, (Go.sizeOf 5).run Try.prog w = .ok 1 w := fun _ => by kernel_rfl
theorem arr32 : Try.prog.underlying 32 = some (.array 20 5) := by kernel_rfl

/-- 'buf[k:]' of the array of 20 -/
theorem run_tail (b j : Nat) (hj : j < 20) (W : World) :
    (Instr.sliceAt 32 (.pointer (some ⟨b, 0, none⟩)) (some (.int .i64 (j : Int))) none none).run Try.prog W = .ok (.slice (some ⟨b, j, none⟩) (20 - j) (20 - j)) W := by
  have hl : Try.prog.arrayLen 32 = 20 := by simp [Program.arrayLen]
  have he : Try.prog.elem 32 = 5 := by simp [Program.elem]
  rw [run_sliceAt_array_l W 32 ⟨b, 0, none⟩ (by rw [hl, he]; exact arr32) .i64 (j : Int) (by omega) (by rw [hl]; omega), he, size5, hl]
  have hne : ¬ 20 = j := by omega
  simp [Result.andThen, slicedAt, Addr.add, hne]
  omega

/-- the digits from k on, as a text -/
theorem run_text {w wr : World} {j : Nat} (hj : j < 20) (hB : Buf w wr j) :
    ∃ d : ByteArray, d.size ≤ 20 ∧ ad d.data.toList = true ∧ (convert 26 9 (.slice (some ⟨w.heap.size, j, none⟩) (20 - j) (20 - j))).run Try.prog wr = .ok (.string d) wr := by
  obtain ⟨⟨g, hg, hd⟩, _, _, _⟩ := hB
  have hlen : ((List.range (20 - j)).map fun i => g (j + i)).length = 20 - j := by simp
  have h := run_convert_bytes_arg (P := Try.prog) wr 26 5 Try.underlying26 Try.underlying5 w.heap.size j (20 - j) (20 - j) ((List.range (20 - j)).map fun i => g (j + i)) hlen
    (fun i hi => by rw [hg (j + i) (by omega)]; simp [List.getD, hi]) 9 Try.underlying9
  refine ⟨_, ?_, ?_, h⟩
  · rw [strOfNums_size, hlen]; omega
  · rw [strOfNums_data]
    unfold ad
    have h0 : ((List.range (20 - j)).map fun i => g (j + i)) ≠ [] := by
      intro e; rw [e] at hlen; simp at hlen; omega
    have h1 : (((List.range (20 - j)).map fun i => g (j + i)).map fun n => UInt8.ofNat n.toNat).isEmpty = false := by
      cases e : (List.range (20 - j)).map fun i => g (j + i) with
      | nil => exact absurd e h0
      | cons a l => rfl
    rw [h1]
    simp only [Bool.not_false, Bool.true_and, List.all_map, List.all_eq_true, List.mem_range]
    intro i hi
    obtain ⟨c1, c2⟩ := hd (j + i) (by omega) (by omega)
    show isDig (UInt8.ofNat (g (j + i)).toNat) = true
    simp only [isDig, decide_eq_true_eq]
    have : (UInt8.ofNat (g (j + i)).toNat).toNat = (g (j + i)).toNat := by
      simp; omega
    rw [this]
    omega

/-- one digit more is laid -/
theorem Buf.put {w wr : World} {j : Nat} (h : Buf w wr (j + 1)) (hj : j < 20) (c : Int) (h0 : 48 ≤ c) (h1 : c ≤ 57) :
    Buf w (wr.setCell ⟨w.heap.size, j, none⟩ (.int .u8 c)) j := by
  obtain ⟨⟨g, hg, hd⟩, hf, hb, hz⟩ := h
  refine ⟨⟨fun i => if i = j then c else g i, fun i hi => ?_, fun i hi hi2 => ?_⟩, fun i => ?_, hb.setCell (Nat.le_refl _) _, by simpa using hz⟩
  · by_cases e : i = j
    · subst e
      simp only [if_true]
      exact World.cell?_setCell_same _ _ _ (hg i hi)
    · simp only [e, if_false]
      rw [← hg i hi]
      exact World.cell?_setCell_other _ _ _ _ (fun h => e (congrArg Addr.off h).symm)
  · by_cases e : i = j
    · simp [e, h0, h1]
    · simp only [e, if_false]
      exact hd i (by omega) hi2
  · rw [World.frozen?_setCell]; exact hf i

set_option maxHeartbeats 400000 in
theorem zzDecimal_any (n : Int) (w : World) (h0 : 0 ≤ n) (h1 : n < 18446744073709551616) :
    Calls Try.prog 7 #[.int .u64 n] w fun e w' => ∃ d : ByteArray, e = .returned (.string d) ∧ d.size ≤ 20 ∧ ad d.data.toList = true ∧ Below w.heap.size w w' := by
  have H1 : Hid (n < p10 20) := by show n < p10 20; rw [p10_20]; omega
  have h2 : n ≤ 18446744073709551615 := by omega
  clear h1
  go_enter Try.func7, Try.ntmps7
  go_wp2
  go_loopw [0, 4] (fun m k wr => ∃ (x : Int) (j : Nat), m = .int .u64 x ∧ k = .int .i64 ((j : Int) + 1) ∧ j < 20 ∧ 0 ≤ x ∧ x < p10 (j + 1) ∧ x ≤ 18446744073709551615 ∧ Buf w wr (j + 1)) (fun _ k _ => (intOf k).toNat)
  case atStart =>
    refine ⟨n, 19, rfl, rfl, by omega, h0, H1.out, h2, ⟨fun _ => 0, fun i hi => ?_, fun i hi hi2 => by omega⟩, fun i => ?_, (Below.refl _ _).alloc (Nat.le_refl _) _, by simp⟩
    · rw [World.cell?_alloc_at _ _ _ _ rfl]
      match i, hi with
      | 0, _ | 1, _ | 2, _ | 3, _ | 4, _ | 5, _ | 6, _ | 7, _ | 8, _ | 9, _ | 10, _ | 11, _ | 12, _ | 13, _ | 14, _ | 15, _ | 16, _ | 17, _ | 18, _ | 19, _ => rfl
      | _ + 20, h => exact absurd h (by omega)
    · exact World.frozen?_alloc_at _ _ _ _ rfl
  case round =>
    obtain ⟨x, j, rfl, rfl, hj, hx0, hx1, hx2, hB⟩ := hrel
    have hc : ∃ v, wr.cell? ⟨w.heap.size, j, none⟩ = some v := by
      obtain ⟨⟨g, hg, _⟩, _⟩ := hB
      exact ⟨_, hg j hj⟩
    obtain ⟨v, hc⟩ := hc
    have hfj : wr.frozen? ⟨w.heap.size, j, none⟩ = false := hB.2.1 j
    have HX : Hid (x < p10 (j + 1)) := hx1
    have hB' := hB.put hj (48 + x % 10) (by omega) (by omega)
    obtain ⟨d, hd1, hd2, hcv⟩ := run_text hj hB'
    have hsl := run_tail w.heap.size j hj
    have HB : Hid (Buf w (wr.setCell ⟨w.heap.size, j, none⟩ (.int .u8 (48 + x % 10))) j) := hB'
    clear hx1 hB hB'
    by_cases hz : x / 10 = 0
    · go_wp2
      go_ret
      exact ⟨d, rfl, hd1, hd2, HB.out.2.2.1⟩
    · go_wp2
      have hx1 := HX.out
      have hj0 : j ≠ 0 := by
        rintro rfl
        simp only [p10] at hx1
        omega
      obtain ⟨i, rfl⟩ : ∃ i, j = i + 1 := ⟨j - 1, by omega⟩
      go_round
      case rel =>
        refine ⟨x / 10, i, rfl, by go_num, by omega, by omega, ?_, by omega, HB.out⟩
        have : p10 (i + 1 + 1) = 10 * p10 (i + 1) := rfl
        omega
      case measure => simp [intOf]; omega
end Dig
end Go.Proofs.Qxb6617779a
