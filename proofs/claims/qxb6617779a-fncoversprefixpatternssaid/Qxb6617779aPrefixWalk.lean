import Derived.Test.Qxb6617779aMatch
namespace Go.Proofs.Qxb6617779a
open Go.RowKit
namespace Mat

/-! ### the plain law of patterns -/

theorem data_append (a b : ByteArray) : (a ++ b).data.toList = a.data.toList ++ b.data.toList := by simp

theorem mt_star (p n : List UInt8) : mt (p ++ [42]) n = (decide (p.length ≤ n.length) && (n.take p.length == p)) := by
  unfold mt
  rw [if_pos (by simp)]
  simp

theorem mt_plain (p n : List UInt8) (h : p.getLast? ≠ some 42) : mt p n = (n == p) := by
  unfold mt
  rw [if_neg h]

theorem f1 (p q : ByteArray) : mt (p ++ ⟨#[42]⟩).data.toList (p ++ q).data.toList = true := by
  rw [data_append, data_append]
  show mt (p.data.toList ++ [42]) _ = true
  rw [mt_star]
  simp

theorem f2 (p : ByteArray) (h : 0 < p.size) : mt (p ++ ⟨#[42]⟩).data.toList (p.extract 0 (p.size - 1)).data.toList = false := by
  rw [data_append]
  show mt (p.data.toList ++ [42]) _ = false
  have e : (p.extract 0 (p.size - 1)).data.toList.length = p.size - 1 := by
    rw [len_data]; simp
  rw [mt_star, e, len_data, decide_eq_false (by omega)]
  rfl

theorem f3 (p q : ByteArray) (h : 0 < q.size) (hl : ∀ h0 : 0 < p.size, p[p.size - 1].toNat ≠ 42) : mt p.data.toList (p ++ q).data.toList = false := by
  have hq := len_data q
  rw [data_append, mt_plain]
  · rw [beq_eq_false_iff_ne]
    intro e
    have := congrArg List.length e
    rw [List.length_append] at this
    omega
  · by_cases h0 : 0 < p.size
    · rw [last_data p h0]
      intro e
      exact hl h0 (byte_eq.1 (Option.some_inj.1 e))
    · have h1 := len_data p
      have : p.data.toList = [] := List.eq_nil_of_length_eq_zero (by omega)
      rw [this]
      simp

theorem f4 (p q : ByteArray) (h : 0 < q.size) (hl : q[q.size - 1].toNat ≠ 42) : mt (p ++ ⟨#[42]⟩ ++ q).data.toList (p ++ ⟨#[120]⟩ ++ q).data.toList = false := by
  rw [data_append, data_append, data_append, data_append]
  show mt (p.data.toList ++ [42] ++ q.data.toList) (p.data.toList ++ [120] ++ q.data.toList) = false
  rw [mt_plain]
  · rw [beq_eq_false_iff_ne]
    intro e
    simp at e
  · have hl2 := last_data q h
    rw [List.getLast?_append, hl2, Option.some_or]
    intro e
    exact hl (byte_eq.1 (Option.some_inj.1 e))

/-- ZZCovers over a list of one pattern -/
theorem one_val (inv : Bool) (b : Nat) (pat n : ByteArray) (w : World) (r : Bool) (hc : w.cell? ⟨b, 0, none⟩ = some (.string pat)) (hp : pat.size ≤ maxLen) (hn : n.size ≤ maxLen) (h : (mt pat.data.toList n.data.toList != inv) = r) :
    Calls Try.prog 10 #[.bool inv, .slice (some ⟨b, 0, none⟩) 1 1, .string n] w fun e w' => e = .returned (.bool r) ∧ Below w.heap.size w w' := by
  refine zzCovers_val inv _ 1 1 [pat] n w r rfl (.inr ⟨b, 0, rfl, fun i hi => ?_⟩) (by simp) (fun s hs => ?_) hn (by rw [← h]; simp [anyOf])
  · obtain rfl : i = 0 := by simp at hi; omega
    simpa using hc
  · simp at hs; subst hs; exact hp

theorem one_no (inv : Bool) (b : Nat) (pat n : ByteArray) (w : World) (hc : w.cell? ⟨b, 0, none⟩ = some (.string pat)) (hp : pat.size ≤ maxLen) (hn : n.size ≤ maxLen) (h : mt pat.data.toList n.data.toList = false) :
    Calls Try.prog 10 #[.bool inv, .slice (some ⟨b, 0, none⟩) 1 1, .string n] w fun e w' => e = .returned (.bool inv) ∧ Below w.heap.size w w' :=
  one_val inv b pat n w inv hc hp hn (by rw [h]; cases inv <;> rfl)

theorem one_yes (inv : Bool) (b : Nat) (pat n : ByteArray) (w : World) (hc : w.cell? ⟨b, 0, none⟩ = some (.string pat)) (hp : pat.size ≤ maxLen) (hn : n.size ≤ maxLen) (h : mt pat.data.toList n.data.toList = true) :
    Calls Try.prog 10 #[.bool inv, .slice (some ⟨b, 0, none⟩) 1 1, .string n] w fun e w' => e = .returned (.bool (!inv)) ∧ Below w.heap.size w w' :=
  one_val inv b pat n w (!inv) hc hp hn (by rw [h]; cases inv <;> rfl)

theorem nil_no (inv : Bool) (n : ByteArray) (w : World) (hn : n.size ≤ maxLen) :
    Calls Try.prog 10 #[.bool inv, .slice none 0 0, .string n] w fun e w' => e = .returned (.bool inv) ∧ Below w.heap.size w w' :=
  zzCovers_val inv none 0 0 [] n w inv rfl (.inl rfl) (by simp) (fun s hs => by simp at hs) hn (by cases inv <;> rfl)

theorem step1 {B : Nat} {W u u' : World} (h : Below B W u) (hB : B ≤ W.heap.size) (hc : Below u.heap.size u u') : Below B W u' := h.trans (hc.mono (Nat.le_trans hB h.size))
theorem step2 {B : Nat} {W u u' : World} (h : Below B W u) (hB : B ≤ W.heap.size) {O : Obj} (hc : Below (u.alloc O).heap.size (u.alloc O) u') : Below B W u' :=
  step1 (h.alloc (Nat.le_trans hB h.size) O) hB hc

theorem star_cell {w u : World} {v : Value} {t : TypeId} (h : Below (w.heap.size + 1) (w.alloc (.cells #[v] t)) u) : u.cell? ⟨w.heap.size, 0, none⟩ = some v := by
  rw [h.cell (p := ⟨w.heap.size, 0, none⟩) (Nat.lt_succ_self _)]
  simp

theorem star_fin {w u : World} {O : Obj} (h : Below (w.heap.size + 1) (w.alloc O) u) : Below w.heap.size w u :=
  ((Below.refl _ _).alloc (Nat.le_refl _) O).trans (h.mono (Nat.le_succ _))

set_option maxHeartbeats 800000 in
theorem pre_a (inv : Bool) (p q : ByteArray) (w : World) (_hz : p.size + q.size ≤ 1048576) (h0 : p.size = 0) (h1 : q.size = 0) :
    Calls Try.prog 5 #[.bool inv, .string p, .string q] w fun e w' => e = .returned (.bool true) ∧ Below w.heap.size w w' := by
  have S1 : Kept ((p ++ (⟨#[42]⟩ : ByteArray)).size ≤ maxLen) := ⟨by unfold maxLen; rw [ByteArray.size_append]; show p.size + 1 ≤ _; omega⟩
  have S2 : Kept ((p ++ q).size ≤ maxLen) := ⟨by unfold maxLen; rw [ByteArray.size_append]; omega⟩
  cases inv
  all_goals
    go_enter Try.func5, Try.ntmps5
    go_wp2_with (first | (go_at_call 12; go_in) | fail)
    refine (one_yes _ _ (p ++ ⟨#[42]⟩) _ _ (by simp) S1.out S2.out (f1 p q)).mono ?_
    rintro e u ⟨rfl, hb1⟩
    have HB : Kept (Below (w.heap.size + 1) (w.alloc (.cells #[.string (p ++ ⟨#[42]⟩)] 9)) u) := ⟨by simpa using hb1⟩
    clear hb1
    go_wp2_with fail
    refine (nil_no _ _ _ S2.out).mono ?_
    rintro e u5 ⟨rfl, hb1⟩
    go_wp2_with fail
    go_ret
    exact ⟨rfl, star_fin (step1 HB.out (by simp) hb1)⟩

set_option maxHeartbeats 800000 in
theorem pre_b (inv : Bool) (p q : ByteArray) (w : World) (hz : p.size + q.size ≤ 1048576) (h0 : 0 < p.size) (h1 : q.size = 0) :
    Calls Try.prog 5 #[.bool inv, .string p, .string q] w fun e w' => e = .returned (.bool true) ∧ Below w.heap.size w w' := by
  have S1 : Kept ((p ++ (⟨#[42]⟩ : ByteArray)).size ≤ maxLen) := ⟨by unfold maxLen; rw [ByteArray.size_append]; show p.size + 1 ≤ _; omega⟩
  have S2 : Kept ((p ++ q).size ≤ maxLen) := ⟨by unfold maxLen; rw [ByteArray.size_append]; omega⟩
  have S6 : Kept ((p.extract 0 (p.size - 1)).size ≤ maxLen) := ⟨by unfold maxLen; simp; omega⟩
  have F2 : Kept (mt (p ++ (⟨#[42]⟩ : ByteArray)).data.toList (p.extract 0 (p.size - 1)).data.toList = false) := ⟨f2 p h0⟩
  have hpz : ((p.size : Int) == 0) = false := beq_eq_false_iff_ne.2 (by omega)
  cases inv
  all_goals
    go_enter Try.func5, Try.ntmps5
    go_wp2_with (first | (go_at_call 12; go_in) | fail)
    refine (one_yes _ _ (p ++ ⟨#[42]⟩) _ _ (by simp) S1.out S2.out (f1 p q)).mono ?_
    rintro e u ⟨rfl, hb1⟩
    have HB : Kept (Below (w.heap.size + 1) (w.alloc (.cells #[.string (p ++ ⟨#[42]⟩)] 9)) u) := ⟨by simpa using hb1⟩
    clear hb1
    go_wp2_with fail
    refine (one_no _ _ (p ++ ⟨#[42]⟩) _ _ (star_cell HB.out) S1.out S6.out F2.out).mono ?_
    rintro e u2 ⟨rfl, hb1⟩
    replace HB : Kept (Below (w.heap.size + 1) (w.alloc (.cells #[.string (p ++ ⟨#[42]⟩)] 9)) u2) := ⟨step1 HB.out (by simp) hb1⟩
    clear hb1
    go_wp2_with fail
    refine (nil_no _ _ _ S2.out).mono ?_
    rintro e u5 ⟨rfl, hb1⟩
    go_wp2_with fail
    go_ret
    exact ⟨rfl, star_fin (step1 HB.out (by simp) hb1)⟩

set_option maxHeartbeats 800000 in
theorem pre_c (inv : Bool) (p q : ByteArray) (w : World) (hz : p.size + q.size ≤ 1048576) (h0 : p.size = 0) (h1 : 0 < q.size) (hq : q[q.size - 1].toNat = 42) :
    Calls Try.prog 5 #[.bool inv, .string p, .string q] w fun e w' => e = .returned (.bool true) ∧ Below w.heap.size w w' := by
  have S1 : Kept ((p ++ (⟨#[42]⟩ : ByteArray)).size ≤ maxLen) := ⟨by unfold maxLen; rw [ByteArray.size_append]; show p.size + 1 ≤ _; omega⟩
  have S2 : Kept ((p ++ q).size ≤ maxLen) := ⟨by unfold maxLen; rw [ByteArray.size_append]; omega⟩
  have S3 : Kept (p.size ≤ maxLen) := ⟨by unfold maxLen; omega⟩
  have F3 : Kept (mt p.data.toList (p ++ q).data.toList = false) := ⟨f3 p q h1 (fun h => absurd h (by omega))⟩
  cases inv
  all_goals
    go_enter Try.func5, Try.ntmps5
    go_wp2_with (first | (go_at_call 12; go_in) | fail)
    refine (one_yes _ _ (p ++ ⟨#[42]⟩) _ _ (by simp) S1.out S2.out (f1 p q)).mono ?_
    rintro e u ⟨rfl, hb1⟩
    have HB : Kept (Below (w.heap.size + 1) (w.alloc (.cells #[.string (p ++ ⟨#[42]⟩)] 9)) u) := ⟨by simpa using hb1⟩
    clear hb1
    go_wp2_with fail
    refine (one_no _ _ p _ _ (by simp) S3.out S2.out F3.out).mono ?_
    rintro e u3 ⟨rfl, hb1⟩
    replace HB : Kept (Below (w.heap.size + 1) (w.alloc (.cells #[.string (p ++ ⟨#[42]⟩)] 9)) u3) := ⟨step2 HB.out (by simp) hb1⟩
    clear hb1
    go_wp2_with fail
    refine (nil_no _ _ _ S2.out).mono ?_
    rintro e u5 ⟨rfl, hb1⟩
    go_wp2_with fail
    go_ret
    exact ⟨rfl, star_fin (step1 HB.out (by simp) hb1)⟩

set_option maxHeartbeats 800000 in
theorem pre_d (inv : Bool) (p q : ByteArray) (w : World) (hz : p.size + q.size ≤ 1048576) (h0 : p.size = 0) (h1 : 0 < q.size) (hq : q[q.size - 1].toNat ≠ 42) :
    Calls Try.prog 5 #[.bool inv, .string p, .string q] w fun e w' => e = .returned (.bool true) ∧ Below w.heap.size w w' := by
  have S1 : Kept ((p ++ (⟨#[42]⟩ : ByteArray)).size ≤ maxLen) := ⟨by unfold maxLen; rw [ByteArray.size_append]; show p.size + 1 ≤ _; omega⟩
  have S2 : Kept ((p ++ q).size ≤ maxLen) := ⟨by unfold maxLen; rw [ByteArray.size_append]; omega⟩
  have S3 : Kept (p.size ≤ maxLen) := ⟨by unfold maxLen; omega⟩
  have F3 : Kept (mt p.data.toList (p ++ q).data.toList = false) := ⟨f3 p q h1 (fun h => absurd h (by omega))⟩
  have S4 : Kept ((p ++ (⟨#[42]⟩ : ByteArray) ++ q).size ≤ maxLen) := ⟨by unfold maxLen; rw [ByteArray.size_append, ByteArray.size_append]; show p.size + 1 + q.size ≤ _; omega⟩
  have S5 : Kept ((p ++ (⟨#[120]⟩ : ByteArray) ++ q).size ≤ maxLen) := ⟨by unfold maxLen; rw [ByteArray.size_append, ByteArray.size_append]; show p.size + 1 + q.size ≤ _; omega⟩
  have F4 : Kept (mt (p ++ (⟨#[42]⟩ : ByteArray) ++ q).data.toList (p ++ (⟨#[120]⟩ : ByteArray) ++ q).data.toList = false) := ⟨f4 p q h1 hq⟩
  cases inv
  all_goals
    go_enter Try.func5, Try.ntmps5
    go_wp2_with (first | (go_at_call 12; go_in) | fail)
    refine (one_yes _ _ (p ++ ⟨#[42]⟩) _ _ (by simp) S1.out S2.out (f1 p q)).mono ?_
    rintro e u ⟨rfl, hb1⟩
    have HB : Kept (Below (w.heap.size + 1) (w.alloc (.cells #[.string (p ++ ⟨#[42]⟩)] 9)) u) := ⟨by simpa using hb1⟩
    clear hb1
    go_wp2_with fail
    refine (one_no _ _ p _ _ (by simp) S3.out S2.out F3.out).mono ?_
    rintro e u3 ⟨rfl, hb1⟩
    replace HB : Kept (Below (w.heap.size + 1) (w.alloc (.cells #[.string (p ++ ⟨#[42]⟩)] 9)) u3) := ⟨step2 HB.out (by simp) hb1⟩
    clear hb1
    go_wp2_with fail
    refine (one_no _ _ (p ++ ⟨#[42]⟩ ++ q) _ _ (by simp) S4.out S5.out F4.out).mono ?_
    rintro e u4 ⟨rfl, hb1⟩
    replace HB : Kept (Below (w.heap.size + 1) (w.alloc (.cells #[.string (p ++ ⟨#[42]⟩)] 9)) u4) := ⟨step2 HB.out (by simp) hb1⟩
    clear hb1
    go_wp2_with fail
    refine (nil_no _ _ _ S2.out).mono ?_
    rintro e u5 ⟨rfl, hb1⟩
    go_wp2_with fail
    go_ret
    exact ⟨rfl, star_fin (step1 HB.out (by simp) hb1)⟩

set_option maxHeartbeats 800000 in
theorem pre_e (inv : Bool) (p q : ByteArray) (w : World) (hz : p.size + q.size ≤ 1048576) (h0 : 0 < p.size) (h1 : 0 < q.size) (hl : p[p.size - 1].toNat = 42) (hq : q[q.size - 1].toNat = 42) :
    Calls Try.prog 5 #[.bool inv, .string p, .string q] w fun e w' => e = .returned (.bool true) ∧ Below w.heap.size w w' := by
  have S1 : Kept ((p ++ (⟨#[42]⟩ : ByteArray)).size ≤ maxLen) := ⟨by unfold maxLen; rw [ByteArray.size_append]; show p.size + 1 ≤ _; omega⟩
  have S2 : Kept ((p ++ q).size ≤ maxLen) := ⟨by unfold maxLen; rw [ByteArray.size_append]; omega⟩
  have S6 : Kept ((p.extract 0 (p.size - 1)).size ≤ maxLen) := ⟨by unfold maxLen; simp; omega⟩
  have F2 : Kept (mt (p ++ (⟨#[42]⟩ : ByteArray)).data.toList (p.extract 0 (p.size - 1)).data.toList = false) := ⟨f2 p h0⟩
  have hpz : ((p.size : Int) == 0) = false := beq_eq_false_iff_ne.2 (by omega)
  cases inv
  all_goals
    go_enter Try.func5, Try.ntmps5
    go_wp2_with (first | (go_at_call 12; go_in) | fail)
    refine (one_yes _ _ (p ++ ⟨#[42]⟩) _ _ (by simp) S1.out S2.out (f1 p q)).mono ?_
    rintro e u ⟨rfl, hb1⟩
    have HB : Kept (Below (w.heap.size + 1) (w.alloc (.cells #[.string (p ++ ⟨#[42]⟩)] 9)) u) := ⟨by simpa using hb1⟩
    clear hb1
    go_wp2_with fail
    refine (one_no _ _ (p ++ ⟨#[42]⟩) _ _ (star_cell HB.out) S1.out S6.out F2.out).mono ?_
    rintro e u2 ⟨rfl, hb1⟩
    replace HB : Kept (Below (w.heap.size + 1) (w.alloc (.cells #[.string (p ++ ⟨#[42]⟩)] 9)) u2) := ⟨step1 HB.out (by simp) hb1⟩
    clear hb1
    go_wp2_with fail
    refine (nil_no _ _ _ S2.out).mono ?_
    rintro e u5 ⟨rfl, hb1⟩
    go_wp2_with fail
    go_ret
    exact ⟨rfl, star_fin (step1 HB.out (by simp) hb1)⟩

set_option maxHeartbeats 800000 in
theorem pre_f (inv : Bool) (p q : ByteArray) (w : World) (hz : p.size + q.size ≤ 1048576) (h0 : 0 < p.size) (h1 : 0 < q.size) (hl : p[p.size - 1].toNat = 42) (hq : q[q.size - 1].toNat ≠ 42) :
    Calls Try.prog 5 #[.bool inv, .string p, .string q] w fun e w' => e = .returned (.bool true) ∧ Below w.heap.size w w' := by
  have S1 : Kept ((p ++ (⟨#[42]⟩ : ByteArray)).size ≤ maxLen) := ⟨by unfold maxLen; rw [ByteArray.size_append]; show p.size + 1 ≤ _; omega⟩
  have S2 : Kept ((p ++ q).size ≤ maxLen) := ⟨by unfold maxLen; rw [ByteArray.size_append]; omega⟩
  have S4 : Kept ((p ++ (⟨#[42]⟩ : ByteArray) ++ q).size ≤ maxLen) := ⟨by unfold maxLen; rw [ByteArray.size_append, ByteArray.size_append]; show p.size + 1 + q.size ≤ _; omega⟩
  have S5 : Kept ((p ++ (⟨#[120]⟩ : ByteArray) ++ q).size ≤ maxLen) := ⟨by unfold maxLen; rw [ByteArray.size_append, ByteArray.size_append]; show p.size + 1 + q.size ≤ _; omega⟩
  have F4 : Kept (mt (p ++ (⟨#[42]⟩ : ByteArray) ++ q).data.toList (p ++ (⟨#[120]⟩ : ByteArray) ++ q).data.toList = false) := ⟨f4 p q h1 hq⟩
  have S6 : Kept ((p.extract 0 (p.size - 1)).size ≤ maxLen) := ⟨by unfold maxLen; simp; omega⟩
  have F2 : Kept (mt (p ++ (⟨#[42]⟩ : ByteArray)).data.toList (p.extract 0 (p.size - 1)).data.toList = false) := ⟨f2 p h0⟩
  have hpz : ((p.size : Int) == 0) = false := beq_eq_false_iff_ne.2 (by omega)
  cases inv
  all_goals
    go_enter Try.func5, Try.ntmps5
    go_wp2_with (first | (go_at_call 12; go_in) | fail)
    refine (one_yes _ _ (p ++ ⟨#[42]⟩) _ _ (by simp) S1.out S2.out (f1 p q)).mono ?_
    rintro e u ⟨rfl, hb1⟩
    have HB : Kept (Below (w.heap.size + 1) (w.alloc (.cells #[.string (p ++ ⟨#[42]⟩)] 9)) u) := ⟨by simpa using hb1⟩
    clear hb1
    go_wp2_with fail
    refine (one_no _ _ (p ++ ⟨#[42]⟩) _ _ (star_cell HB.out) S1.out S6.out F2.out).mono ?_
    rintro e u2 ⟨rfl, hb1⟩
    replace HB : Kept (Below (w.heap.size + 1) (w.alloc (.cells #[.string (p ++ ⟨#[42]⟩)] 9)) u2) := ⟨step1 HB.out (by simp) hb1⟩
    clear hb1
    go_wp2_with fail
    refine (one_no _ _ (p ++ ⟨#[42]⟩ ++ q) _ _ (by simp) S4.out S5.out F4.out).mono ?_
    rintro e u4 ⟨rfl, hb1⟩
    replace HB : Kept (Below (w.heap.size + 1) (w.alloc (.cells #[.string (p ++ ⟨#[42]⟩)] 9)) u4) := ⟨step2 HB.out (by simp) hb1⟩
    clear hb1
    go_wp2_with fail
    refine (nil_no _ _ _ S2.out).mono ?_
    rintro e u5 ⟨rfl, hb1⟩
    go_wp2_with fail
    go_ret
    exact ⟨rfl, star_fin (step1 HB.out (by simp) hb1)⟩

set_option maxHeartbeats 800000 in
theorem pre_g (inv : Bool) (p q : ByteArray) (w : World) (hz : p.size + q.size ≤ 1048576) (h0 : 0 < p.size) (h1 : 0 < q.size) (hl : p[p.size - 1].toNat ≠ 42) (hq : q[q.size - 1].toNat = 42) :
    Calls Try.prog 5 #[.bool inv, .string p, .string q] w fun e w' => e = .returned (.bool true) ∧ Below w.heap.size w w' := by
  have S1 : Kept ((p ++ (⟨#[42]⟩ : ByteArray)).size ≤ maxLen) := ⟨by unfold maxLen; rw [ByteArray.size_append]; show p.size + 1 ≤ _; omega⟩
  have S2 : Kept ((p ++ q).size ≤ maxLen) := ⟨by unfold maxLen; rw [ByteArray.size_append]; omega⟩
  have S3 : Kept (p.size ≤ maxLen) := ⟨by unfold maxLen; omega⟩
  have F3 : Kept (mt p.data.toList (p ++ q).data.toList = false) := ⟨f3 p q h1 (fun _ => hl)⟩
  have S6 : Kept ((p.extract 0 (p.size - 1)).size ≤ maxLen) := ⟨by unfold maxLen; simp; omega⟩
  have F2 : Kept (mt (p ++ (⟨#[42]⟩ : ByteArray)).data.toList (p.extract 0 (p.size - 1)).data.toList = false) := ⟨f2 p h0⟩
  have hpz : ((p.size : Int) == 0) = false := beq_eq_false_iff_ne.2 (by omega)
  cases inv
  all_goals
    go_enter Try.func5, Try.ntmps5
    go_wp2_with (first | (go_at_call 12; go_in) | fail)
    refine (one_yes _ _ (p ++ ⟨#[42]⟩) _ _ (by simp) S1.out S2.out (f1 p q)).mono ?_
    rintro e u ⟨rfl, hb1⟩
    have HB : Kept (Below (w.heap.size + 1) (w.alloc (.cells #[.string (p ++ ⟨#[42]⟩)] 9)) u) := ⟨by simpa using hb1⟩
    clear hb1
    go_wp2_with fail
    refine (one_no _ _ (p ++ ⟨#[42]⟩) _ _ (star_cell HB.out) S1.out S6.out F2.out).mono ?_
    rintro e u2 ⟨rfl, hb1⟩
    replace HB : Kept (Below (w.heap.size + 1) (w.alloc (.cells #[.string (p ++ ⟨#[42]⟩)] 9)) u2) := ⟨step1 HB.out (by simp) hb1⟩
    clear hb1
    go_wp2_with fail
    refine (one_no _ _ p _ _ (by simp) S3.out S2.out F3.out).mono ?_
    rintro e u3 ⟨rfl, hb1⟩
    replace HB : Kept (Below (w.heap.size + 1) (w.alloc (.cells #[.string (p ++ ⟨#[42]⟩)] 9)) u3) := ⟨step2 HB.out (by simp) hb1⟩
    clear hb1
    go_wp2_with fail
    refine (nil_no _ _ _ S2.out).mono ?_
    rintro e u5 ⟨rfl, hb1⟩
    go_wp2_with fail
    go_ret
    exact ⟨rfl, star_fin (step1 HB.out (by simp) hb1)⟩

set_option maxHeartbeats 800000 in
theorem pre_h (inv : Bool) (p q : ByteArray) (w : World) (hz : p.size + q.size ≤ 1048576) (h0 : 0 < p.size) (h1 : 0 < q.size) (hl : p[p.size - 1].toNat ≠ 42) (hq : q[q.size - 1].toNat ≠ 42) :
    Calls Try.prog 5 #[.bool inv, .string p, .string q] w fun e w' => e = .returned (.bool true) ∧ Below w.heap.size w w' := by
  have S1 : Kept ((p ++ (⟨#[42]⟩ : ByteArray)).size ≤ maxLen) := ⟨by unfold maxLen; rw [ByteArray.size_append]; show p.size + 1 ≤ _; omega⟩
  have S2 : Kept ((p ++ q).size ≤ maxLen) := ⟨by unfold maxLen; rw [ByteArray.size_append]; omega⟩
  have S3 : Kept (p.size ≤ maxLen) := ⟨by unfold maxLen; omega⟩
  have F3 : Kept (mt p.data.toList (p ++ q).data.toList = false) := ⟨f3 p q h1 (fun _ => hl)⟩
  have S4 : Kept ((p ++ (⟨#[42]⟩ : ByteArray) ++ q).size ≤ maxLen) := ⟨by unfold maxLen; rw [ByteArray.size_append, ByteArray.size_append]; show p.size + 1 + q.size ≤ _; omega⟩
  have S5 : Kept ((p ++ (⟨#[120]⟩ : ByteArray) ++ q).size ≤ maxLen) := ⟨by unfold maxLen; rw [ByteArray.size_append, ByteArray.size_append]; show p.size + 1 + q.size ≤ _; omega⟩
  have F4 : Kept (mt (p ++ (⟨#[42]⟩ : ByteArray) ++ q).data.toList (p ++ (⟨#[120]⟩ : ByteArray) ++ q).data.toList = false) := ⟨f4 p q h1 hq⟩
  have S6 : Kept ((p.extract 0 (p.size - 1)).size ≤ maxLen) := ⟨by unfold maxLen; simp; omega⟩
  have F2 : Kept (mt (p ++ (⟨#[42]⟩ : ByteArray)).data.toList (p.extract 0 (p.size - 1)).data.toList = false) := ⟨f2 p h0⟩
  have hpz : ((p.size : Int) == 0) = false := beq_eq_false_iff_ne.2 (by omega)
  cases inv
  all_goals
    go_enter Try.func5, Try.ntmps5
    go_wp2_with (first | (go_at_call 12; go_in) | fail)
    refine (one_yes _ _ (p ++ ⟨#[42]⟩) _ _ (by simp) S1.out S2.out (f1 p q)).mono ?_
    rintro e u ⟨rfl, hb1⟩
    have HB : Kept (Below (w.heap.size + 1) (w.alloc (.cells #[.string (p ++ ⟨#[42]⟩)] 9)) u) := ⟨by simpa using hb1⟩
    clear hb1
    go_wp2_with fail
    refine (one_no _ _ (p ++ ⟨#[42]⟩) _ _ (star_cell HB.out) S1.out S6.out F2.out).mono ?_
    rintro e u2 ⟨rfl, hb1⟩
    replace HB : Kept (Below (w.heap.size + 1) (w.alloc (.cells #[.string (p ++ ⟨#[42]⟩)] 9)) u2) := ⟨step1 HB.out (by simp) hb1⟩
    clear hb1
    go_wp2_with fail
    refine (one_no _ _ p _ _ (by simp) S3.out S2.out F3.out).mono ?_
    rintro e u3 ⟨rfl, hb1⟩
    replace HB : Kept (Below (w.heap.size + 1) (w.alloc (.cells #[.string (p ++ ⟨#[42]⟩)] 9)) u3) := ⟨step2 HB.out (by simp) hb1⟩
    clear hb1
    go_wp2_with fail
    refine (one_no _ _ (p ++ ⟨#[42]⟩ ++ q) _ _ (by simp) S4.out S5.out F4.out).mono ?_
    rintro e u4 ⟨rfl, hb1⟩
    replace HB : Kept (Below (w.heap.size + 1) (w.alloc (.cells #[.string (p ++ ⟨#[42]⟩)] 9)) u4) := ⟨step2 HB.out (by simp) hb1⟩
    clear hb1
    go_wp2_with fail
    refine (nil_no _ _ _ S2.out).mono ?_
    rintro e u5 ⟨rfl, hb1⟩
    go_wp2_with fail
    go_ret
    exact ⟨rfl, star_fin (step1 HB.out (by simp) hb1)⟩

theorem pats_in (inv : Bool) (p q : ByteArray) (w : World) (hz : p.size + q.size ≤ 1048576) :
    Calls Try.prog 5 #[.bool inv, .string p, .string q] w fun e w' => e = .returned (.bool true) ∧ Below w.heap.size w w' := by
  by_cases h0 : 0 < p.size
  · by_cases h1 : 0 < q.size
    · by_cases hl : p[p.size - 1].toNat = 42
      · by_cases hq : q[q.size - 1].toNat = 42
        · exact pre_e inv p q w hz h0 h1 hl hq
        · exact pre_f inv p q w hz h0 h1 hl hq
      · by_cases hq : q[q.size - 1].toNat = 42
        · exact pre_g inv p q w hz h0 h1 hl hq
        · exact pre_h inv p q w hz h0 h1 hl hq
    · exact pre_b inv p q w hz h0 (by omega)
  · by_cases h1 : 0 < q.size
    · by_cases hq : q[q.size - 1].toNat = 42
      · exact pre_c inv p q w hz (by omega) h1 hq
      · exact pre_d inv p q w hz (by omega) h1 hq
    · exact pre_a inv p q w hz (by omega) (by omega)
end Mat
end Go.Proofs.Qxb6617779a
