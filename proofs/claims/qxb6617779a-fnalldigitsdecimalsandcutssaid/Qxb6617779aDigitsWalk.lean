import Derived.Test.Qxb6617779aDigits
import Derived.BigQuiet
import Derived.Deep.QuietTactic
import Derived.Below
namespace Go.Proofs.Qxb6617779a
open Go.RowKit
namespace Dig

/-! ### the plain law -/

theorem all_cut (S : List UInt8) (j : Nat) : S.all isDig = ((S.take j).all isDig && (S.drop j).all isDig) := by
  rw [← List.all_append, List.take_append_drop]

theorem data_append (a b : ByteArray) : (a ++ b).data.toList = a.data.toList ++ b.data.toList := by simp

theorem extract_data (s : ByteArray) (a b : Nat) : (s.extract a b).data.toList = (s.data.toList.drop a).take (b - a) := by
  obtain ⟨⟨l⟩⟩ := s
  rw [ByteArray.extract_mk]

theorem len_data (s : ByteArray) : s.data.toList.length = s.size := by simp only [Array.length_toList]; rfl

theorem drop_end (s : ByteArray) (j : Nat) : (s.data.toList.drop j).take (s.size - j) = s.data.toList.drop j :=
  List.take_of_length_le (by rw [List.length_drop, len_data]; exact Nat.le_refl _)

/-- what stands between the two parts of s -/
theorem ins_data (s d : ByteArray) (j : Nat) : (s.extract 0 j ++ d ++ s.extract j s.size).data.toList = s.data.toList.take j ++ d.data.toList ++ s.data.toList.drop j := by
  rw [data_append, data_append, extract_data, extract_data, drop_end]
  simp

theorem ad_ins (s d : ByteArray) (j : Nat) (hd : d.data.toList.isEmpty = false) : ad (s.extract 0 j ++ d ++ s.extract j s.size).data.toList = (d.data.toList.all isDig && s.data.toList.all isDig) := by
  rw [ins_data, all_cut s.data.toList j]
  have h : (s.data.toList.take j ++ d.data.toList ++ s.data.toList.drop j).isEmpty = false := by
    cases e : d.data.toList with
    | nil => rw [e] at hd; cases hd
    | cons a l => simp
  simp only [ad, h, List.all_append, Bool.not_false, Bool.true_and]
  cases (s.data.toList.take j).all isDig <;> cases d.data.toList.all isDig <;> cases (s.data.toList.drop j).all isDig <;> rfl

theorem ad_all {l : List UInt8} (h : ad l = true) : l.isEmpty = false ∧ l.all isDig = true := by
  unfold ad at h
  cases e : l.isEmpty <;> simp [e] at h ⊢
  exact h

/-- the text of one byte -/
theorem run_one (c : Int) (b : Nat) (W : World) (hb : b = W.heap.size) :
    (convert 26 9 (.slice (some ⟨b, 0, none⟩) 1 1)).run Try.prog (W.alloc (.cells #[.int .u8 c] 5)) = .ok (.string (strOfNums [c])) (W.alloc (.cells #[.int .u8 c] 5)) := by
  refine run_convert_bytes_arg (P := Try.prog) _ 26 5 Try.underlying26 Try.underlying5 b 0 1 1 [c] rfl (fun i hi => ?_) 9 Try.underlying9
  obtain rfl : i = 0 := by omega
  rw [World.cell?_alloc_at _ _ _ _ hb]
  rfl

theorem one_data (c : Int) (c0 : 0 ≤ c) (c1 : c ≤ 255) : (strOfNums [c]).data.toList.isEmpty = false ∧ (strOfNums [c]).data.toList.all isDig = decide (48 ≤ c ∧ c ≤ 57) := by
  rw [strOfNums_data]
  refine ⟨rfl, ?_⟩
  simp only [List.map_cons, List.map_nil, List.all_cons, List.all_nil, Bool.and_true, isDig]
  have : (UInt8.ofNat c.toNat).toNat = c.toNat := by simp; omega
  rw [this]
  congr 1
  apply propext
  omega

theorem ad_pre (s : ByteArray) (j : Nat) (h0 : 0 < j) (h1 : j < s.size) : ad (s.extract 0 j).data.toList = (s.data.toList.take j).all isDig ∧ ad (s.extract j s.size).data.toList = (s.data.toList.drop j).all isDig := by
  have hl : s.data.toList.length = s.size := len_data s
  have e1 : (s.extract 0 j).data.toList = s.data.toList.take j := by rw [extract_data]; simp
  have e2 : (s.extract j s.size).data.toList = s.data.toList.drop j := by
    rw [extract_data, drop_end]
  rw [e1, e2]
  have n1 : (s.data.toList.take j).isEmpty = false := by
    cases e : s.data.toList.take j with
    | nil => have := congrArg List.length e; rw [List.length_take, hl] at this; have h9 : min j s.size = 0 := this; omega
    | cons a l => rfl
  have n2 : (s.data.toList.drop j).isEmpty = false := by
    cases e : s.data.toList.drop j with
    | nil => have := congrArg List.length e; rw [List.length_drop, hl] at this; have h9 : s.size - j = 0 := this; omega
    | cons a l => rfl
  simp [ad, n1, n2]

theorem zzAllDigits_val (s : ByteArray) (w : World) (b : Bool) (hs : s.size ≤ maxLen) (h : ad s.data.toList = b) :
    Calls Try.prog 8 #[.string s] w fun e w' => e = .returned (.bool b) ∧ w' = w := by
  rw [← h]; exact zzAllDigits_any s w hs

theorem fin_b {w w2 : World} (hb : Below w.heap.size w w2) (n m : Nat) (O : Obj) : Below w.heap.size w (((w2.drewN n).alloc O).drewN m) :=
  below_drewN ((below_drewN hb n).alloc hb.size O) m

/-- a fact kept from the walk, behind a structure -/
structure Kept (p : Prop) : Prop where
  out : p

set_option maxHeartbeats 800000 in
/-- THE WALK BEHIND THE BOUNDS, over plain truth values: em: s is empty; p, q: the parts before and from j bear digits alone; the byte is one or it is not -/
theorem walk_in (s : ByteArray) (j : Nat) (n c : Int) (hs : s.size ≤ 1048576) (hj : j ≤ s.size) (n0 : 0 ≤ n) (n1 : n < 18446744073709551616) (_c0 : 0 ≤ c) (_c1 : c ≤ 255) (w : World)
    (o : ByteArray) (ho : o.size ≤ 1) (hone : ∀ (b : Nat) (W : World), b = W.heap.size → (convert 26 9 (.slice (some ⟨b, 0, none⟩) 1 1)).run Try.prog (W.alloc (.cells #[.int .u8 c] 5)) = .ok (.string o) (W.alloc (.cells #[.int .u8 c] 5)))
    (em p q b1 b2 : Bool) (hem : s.toList.isEmpty = em) (hwh : ad s.data.toList = (!em && (p && q))) (hep : em = true → p = true ∧ q = true) (hc1 : decide (48 ≤ c) = b1) (hc2 : decide (c ≤ 57) = b2)
    (h14 : ∀ d : ByteArray, ad d.data.toList = true → ad (s.extract 0 j ++ d ++ s.extract j s.size).data.toList = (p && q))
    (h18 : ad (s.extract 0 j ++ o ++ s.extract j s.size).data.toList = (b1 && b2 && (p && q)))
    (hp : 0 < j → j < s.size → ad (s.extract 0 j).data.toList = p ∧ ad (s.extract j s.size).data.toList = q) :
    Calls Try.prog 3 #[.string s, .int .i64 j, .int .u64 n, .int .u8 c] w fun e w' => e = .returned (.bool true) ∧ Below w.heap.size w w' := by
  have hs2 : ∀ d : ByteArray, d.size ≤ 20 → (s.extract 0 j ++ d ++ s.extract j s.size).size ≤ maxLen := by
    intro d hd; unfold maxLen; simp; omega
  have hs3 : (s.extract 0 j ++ o ++ s.extract j s.size).size ≤ maxLen := hs2 _ (by omega)
  have HS2 : Kept (∀ d : ByteArray, d.size ≤ 20 → (s.extract 0 j ++ d ++ s.extract j s.size).size ≤ maxLen) := ⟨hs2⟩
  have HS3 : Kept ((s.extract 0 j ++ o ++ s.extract j s.size).size ≤ maxLen) := ⟨hs3⟩
  have H14 : Kept (∀ d : ByteArray, ad d.data.toList = true → ad (s.extract 0 j ++ d ++ s.extract j s.size).data.toList = (p && q)) := ⟨h14⟩
  have HP : Kept (0 < j → j < s.size → ad (s.extract 0 j).data.toList = p ∧ ad (s.extract j s.size).data.toList = q) := ⟨hp⟩
  have HO : Kept (∀ (b : Nat) (W : World), b = W.heap.size → (convert 26 9 (.slice (some ⟨b, 0, none⟩) 1 1)).run Try.prog (W.alloc (.cells #[.int .u8 c] 5)) = .ok (.string o) (W.alloc (.cells #[.int .u8 c] 5))) := ⟨hone⟩
  clear hs2 hs3 h14 hp hone
  obtain ⟨sok, hsok⟩ : ∃ sok, (p && q) = sok := ⟨_, rfl⟩
  rw [hsok] at hwh h18 H14
  have hep' : em = true → sok = true := by rintro rfl; obtain ⟨rfl, rfl⟩ := hep rfl; exact hsok.symm
  have HK : Kept ((p && q) = sok) := ⟨hsok⟩
  have H18 : Kept (ad (s.extract 0 j ++ o ++ s.extract j s.size).data.toList = (b1 && b2 && sok)) := ⟨h18⟩
  have HC1 : Kept (decide (48 ≤ c) = b1) := ⟨hc1⟩
  have HC2 : Kept (decide (c ≤ 57) = b2) := ⟨hc2⟩
  have HE : Kept (em = true → j = 0) := by
    constructor
    rintro rfl
    rw [ByteArray.toList_eq] at hem
    have := len_data s
    rw [List.isEmpty_iff.1 hem] at this
    have h9 : 0 = s.size := this
    omega
  clear hep hsok h18 hc1 hc2
  cases em <;> cases sok
  case true.false => exact absurd (hep' rfl) (by decide)
  all_goals clear hep'
  all_goals simp only [Bool.and_true, Bool.and_false, Bool.not_true, Bool.not_false] at hwh
  all_goals
    go_enter Try.func3, Try.ntmps3
    go_wp2_with (first | (go_at_call 6; go_in) | fail)
    refine (zzDecimal_any n w n0 n1).mono ?_
    rintro e w' ⟨d, rfl, hd1, hd2, hb⟩
    go_wp2_with (first | (go_at_call 8; refine (zzAllDigits_any _ _ (by unfold maxLen; omega)).mono ?_; rintro e w2 ⟨rfl, rfl⟩) | fail)
    go_quiet ((go_at_call 8; exact Calls.quiet_of_same (zzAllDigits_val _ _ _ (HS2.out _ hd1) (H14.out d hd2))))
    have hcv := HO.out w2.heap.size (w2.drewN nq) (by simp)
    have hc1 := HC1.out
    have hc2 := HC2.out
    cases b1 <;> cases b2
    all_goals simp only [Bool.and_true, Bool.and_false] at H18
  all_goals
    go_wp2_with fail
    go_quiet ((go_at_call 8; exact Calls.quiet_of_same (zzAllDigits_val _ _ _ HS3.out H18.out)))
    clear hcv
    by_cases hj0 : j = 0
    · subst hj0
      go_wp2_with fail
      go_ret
      exact ⟨rfl, fin_b hb _ _ _⟩
    by_cases hj1 : j = s.size
    · have hz : ¬ j < s.size := by omega
      go_wp2_with fail
      go_ret
      exact ⟨rfl, fin_b hb _ _ _⟩
    · obtain ⟨hpp, hqq⟩ := HP.out (by omega) (by omega)
      have HPP : Kept (ad (s.extract 0 j).data.toList = p) := ⟨hpp⟩
      have HQQ : Kept (ad (s.extract j s.size).data.toList = q) := ⟨hqq⟩
      have HZ1 : Kept ((s.extract 0 j).size ≤ maxLen) := ⟨by unfold maxLen; simp; omega⟩
      have HZ2 : Kept ((s.extract j s.size).size ≤ maxLen) := ⟨by unfold maxLen; simp; omega⟩
      clear hpp hqq HP
      cases p <;> cases q
      all_goals first
        | exact absurd HK.out (by decide)
        | exact absurd (HE.out trivial) hj0
        | (go_wp2_with fail
           refine (zzAllDigits_val _ _ _ HZ1.out HPP.out).mono ?_
           rintro e w3 ⟨rfl, rfl⟩
           go_wp2_with fail
           first
           | (go_ret; exact ⟨rfl, fin_b hb _ _ _⟩)
           | (refine (zzAllDigits_val _ _ _ HZ2.out HQQ.out).mono ?_
              rintro e w4 ⟨rfl, rfl⟩
              go_wp2_with fail
              go_ret
              exact ⟨rfl, fin_b hb _ _ _⟩))
end Dig
end Go.Proofs.Qxb6617779a
