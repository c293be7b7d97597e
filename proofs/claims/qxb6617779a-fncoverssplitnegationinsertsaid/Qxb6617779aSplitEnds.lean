import Derived.Test.Qxb6617779aSplitWalk
namespace Go.Proofs.Qxb6617779a
open Go.RowKit
namespace Mat

set_option maxHeartbeats 800000 in
/-- too long a list, or too long a name: true at once -/
theorem split_big (inv : Bool) (a : Option Addr) (cap : Nat) (ss : List ByteArray) (n : ByteArray) (i : Int) (w : World) (hr : StrRow w a ss) (hl : ss.length ≤ maxLen) (hs : ∀ s ∈ ss, s.size ≤ maxLen) (hn : n.size ≤ maxLen)
    (hz : 65536 < ss.length ∨ 1048576 < n.size) :
    Calls Try.prog 4 #[.bool inv, .slice a ss.length cap, .string n, .int .i64 i] w fun e w' => e = .returned (.bool true) ∧ Below w.heap.size w w' := by
  have HN : Kept (n.size ≤ maxLen) := ⟨hn⟩
  have HS : Kept (∀ s ∈ ss, s.size ≤ maxLen) := ⟨hs⟩
  have HR0 : Kept (StrRow w a ss) := ⟨hr⟩
  clear hr hs hn
  by_cases hz1 : 65536 < ss.length
  all_goals
    go_enter Try.func4, Try.ntmps4
    go_wp2_with fail
    refine (bytes_any inv a cap ss n _ w HR0.out hl HS.out HN.out).mono ?_
    rintro e w1 ⟨hw, hh⟩
    have hw' := hw.symm
    subst hw'
    clear hw
    rcases hh with rfl | ⟨rfl, h1, hall, h2⟩
    · go_wp2_with fail
      go_ret
      exact ⟨rfl, Below.refl _ _⟩
    have hz2 : 1048576 < n.size ∨ 65536 < ss.length := by omega
    clear hall hz
    first
    | (go_wp2_with fail
       go_ret
       exact ⟨rfl, Below.refl _ _⟩)
    | omega

set_option maxHeartbeats 800000 in
/-- the place lies outside the list -/
theorem split_out (inv : Bool) (x : Addr) (cap : Nat) (ss : List ByteArray) (n : ByteArray) (i : Int) (hi : i < 0 ∨ (ss.length : Int) < i) (w : World) (hr : StrRow w (some x) ss) (hl : ss.length ≤ maxLen) (hs : ∀ s ∈ ss, s.size ≤ maxLen) (hn : n.size ≤ maxLen)
    (hz1 : ss.length ≤ 65536) (hz2 : n.size ≤ 1048576) :
    Calls Try.prog 4 #[.bool inv, .slice (some x) ss.length cap, .string n, .int .i64 i] w fun e w' => e = .returned (.bool true) ∧ Below w.heap.size w w' := by
  obtain ⟨wA, wB, hmk, hcp, HB, HR⟩ := copy_run (some x) cap ss w hr hz1
  have HN : Kept (n.size ≤ maxLen) := ⟨hn⟩
  have HS : Kept (∀ s ∈ ss, s.size ≤ maxLen) := ⟨hs⟩
  have HR0 : Kept (StrRow w (some x) ss) := ⟨hr⟩
  have HB' : Kept (Below w.heap.size w wB) := ⟨HB⟩
  have HR' : Kept (StrRow wB (some ⟨w.heap.size, 0, none⟩) ss) := ⟨HR⟩
  clear hr hs hn HB HR
  go_enter Try.func4, Try.ntmps4
  go_wp2_with fail
  refine (bytes_any inv (some x) cap ss n _ w HR0.out hl HS.out HN.out).mono ?_
  rintro e w1 ⟨hw, hh⟩
  have hw' := hw.symm
  subst hw'
  clear hw
  rcases hh with rfl | ⟨rfl, _, hall, _⟩
  · go_wp2_with fail
    go_ret
    exact ⟨rfl, Below.refl _ _⟩
  have HA : Kept (∀ s ∈ ss, s.size ≤ 1048576) := ⟨hall⟩
  clear hall
  go_wp2_with fail
  clear hmk hcp
  go_loop [10, 11] (fun t kk => ∃ k z : Nat, k ≤ ss.length ∧ z ≤ 1048576 ∧ kk = .int .i64 k ∧ t = .int .i64 z) (fun _ kk => ss.length - (intOf kk).toNat)
  case atStart => exact ⟨0, n.size, Nat.zero_le _, hz2, rfl, rfl⟩
  case round =>
    obtain ⟨k, z, hk, hz, rfl, rfl⟩ := hrel
    by_cases hlt : k < ss.length
    · obtain ⟨blk, off, hab, hcell⟩ := HR'.out.at (Below.refl _ _) hlt
      simp only [Option.some.injEq, Addr.mk.injEq, and_true] at hab
      obtain ⟨rfl, rfl⟩ := hab
      rw [Nat.zero_add] at hcell
      have hpz : (ss.getD k ByteArray.empty).size ≤ 1048576 := by
        simp only [List.getD, List.getElem?_eq_getElem hlt, Option.getD_some]; exact HA.out _ (List.getElem_mem _)
      generalize ss.getD k ByteArray.empty = p at hcell hpz
      by_cases hbig : 1048576 < z + (16 + p.size)
      · go_wp2_with fail
        go_ret
        exact ⟨rfl, HB'.out⟩
      · go_wp2_with fail
        go_round
        case rel => exact ⟨k + 1, z + (16 + p.size), by omega, by omega, by go_num, by go_num⟩
        case measure => simp [intOf]; omega
    · obtain rfl : k = ss.length := by omega
      rcases hi with hi | hi
      all_goals
        go_wp2_with fail
        go_ret
        exact ⟨rfl, HB'.out⟩

set_option maxHeartbeats 800000 in
/-- the nil list, the place outside it -/
theorem split_nil_out (inv : Bool) (n : ByteArray) (i : Int) (hi : i < 0 ∨ 0 < i) (w : World) (hz2 : n.size ≤ 1048576) :
    Calls Try.prog 4 #[.bool inv, .slice none 0 0, .string n, .int .i64 i] w fun e w' => e = .returned (.bool true) ∧ Below w.heap.size w w' := by
  have HN : Kept (n.size ≤ maxLen) := ⟨by unfold maxLen; omega⟩
  go_enter Try.func4, Try.ntmps4
  go_wp2_with fail
  refine (bytes_any inv none 0 [] n _ w (.inl rfl) (by simp) (fun s hs => by simp at hs) HN.out).mono ?_
  rintro e w1 ⟨hw, hh⟩
  have hw' := hw.symm
  subst hw'
  clear hw
  rcases hh with rfl | ⟨rfl, _, hall, _⟩
  · go_wp2_with fail
    go_ret
    exact ⟨rfl, Below.refl _ _⟩
  clear hall
  go_wp2_with fail
  go_loop [10, 11] (fun t kk => kk = .int .i64 0) (fun _ _ => 0)
  case atStart => rfl
  case round =>
    subst hrel
    rcases hi with hi | hi
    all_goals
      go_wp2_with fail
      go_ret
      exact ⟨rfl, Below.refl _ _⟩

set_option maxHeartbeats 2000000 in
/-- the nil list, at its one place -/
theorem split_nil (inv : Bool) (n : ByteArray) (w : World) (hz2 : n.size ≤ 1048576) :
    Calls Try.prog 4 #[.bool inv, .slice none 0 0, .string n, .int .i64 0] w fun e w' => e = .returned (.bool true) ∧ Below w.heap.size w w' := by
  have HN : Kept (n.size ≤ maxLen) := ⟨by unfold maxLen; omega⟩
  go_enter Try.func4, Try.ntmps4
  go_wp2_with fail
  refine (bytes_any inv none 0 [] n _ w (.inl rfl) (by simp) (fun s hs => by simp at hs) HN.out).mono ?_
  rintro e w1 ⟨hw, hh⟩
  have hw' := hw.symm
  subst hw'
  clear hw
  rcases hh with rfl | ⟨rfl, _, hall, _⟩
  · go_wp2_with fail
    go_ret
    exact ⟨rfl, Below.refl _ _⟩
  clear hall
  go_wp2_with fail
  go_loop [10, 11] (fun t kk => kk = .int .i64 0) (fun _ _ => 0)
  case atStart => rfl
  case round =>
    subst hrel
    cases inv
    all_goals
      have HB' : Kept (Below w.heap.size w w) := ⟨Below.refl _ _⟩
      go_wp2_with fail
      refine (zzCovers_val _ none 0 0 [] n _ _ rfl (.inl rfl) (by simp) (fun s hs => by simp at hs) HN.out rfl).mono ?_
      rintro e u1 ⟨rfl, hb1⟩
      replace HB' : Kept (Below w.heap.size w u1) := ⟨step1 HB'.out (Nat.le_refl _) hb1⟩
      clear hb1
      go_wp2_with fail
      refine (zzCovers_val _ none 0 0 [] n _ _ rfl (.inl rfl) (by simp) (fun s hs => by simp at hs) HN.out rfl).mono ?_
      rintro e u2 ⟨rfl, hb1⟩
      replace HB' : Kept (Below w.heap.size w u2) := ⟨step1 HB'.out (Nat.le_refl _) hb1⟩
      clear hb1
      go_wp2_with fail
      refine (zzCovers_val _ none 0 0 [] n _ _ rfl (.inl rfl) (by simp) (fun s hs => by simp at hs) HN.out rfl).mono ?_
      rintro e u3 ⟨rfl, hb1⟩
      replace HB' : Kept (Below w.heap.size w u3) := ⟨step1 HB'.out (Nat.le_refl _) hb1⟩
      clear hb1
      go_wp2_with fail
      refine (zzCovers_val _ none 0 0 [] n _ _ rfl (.inl rfl) (by simp) (fun s hs => by simp at hs) HN.out rfl).mono ?_
      rintro e u4 ⟨rfl, hb1⟩
      replace HB' : Kept (Below w.heap.size w u4) := ⟨step1 HB'.out (Nat.le_refl _) hb1⟩
      clear hb1
      go_wp2_with fail
      refine (insert_any none 0 [] 0 n _ (.inl rfl) (by simp) (by simp)).mono ?_
      rintro e u5 ⟨rfl, HI⟩
      replace HB' : Kept (Below w.heap.size w u5) := ⟨step1 HB'.out (Nat.le_refl _) HI.below⟩
      replace HI := Kept.mk HI.row
      go_wp2_with fail
      refine (zzCovers_val _ _ 1 1 ([].take 0 ++ n :: [].drop 0) n _ _ rfl HI.out (by simp) (ins_sz [] n 0 (fun s hs => by simp at hs) HN.out) HN.out (by rw [any_ins [] n n 0 (mt_self _)])).mono ?_
      clear HI
      rintro e u6 ⟨rfl, hb1⟩
      replace HB' : Kept (Below w.heap.size w u6) := ⟨step1 HB'.out (Nat.le_refl _) hb1⟩
      clear hb1
      go_wp2_with fail
      refine (insert_any none 0 [] 0 (⟨#[42]⟩ : ByteArray) _ (.inl rfl) (by simp) (by simp)).mono ?_
      rintro e u7 ⟨rfl, HI⟩
      replace HB' : Kept (Below w.heap.size w u7) := ⟨step1 HB'.out (Nat.le_refl _) HI.below⟩
      replace HI := Kept.mk HI.row
      go_wp2_with fail
      refine (zzCovers_val _ _ 1 1 ([].take 0 ++ (⟨#[42]⟩ : ByteArray) :: [].drop 0) n _ _ rfl HI.out (by simp) (ins_sz [] (⟨#[42]⟩ : ByteArray) 0 (fun s hs => by simp at hs) (by decide)) HN.out (by rw [any_ins [] (⟨#[42]⟩ : ByteArray) n 0 (mt_any _)])).mono ?_
      clear HI
      rintro e u9 ⟨rfl, hb1⟩
      replace HB' : Kept (Below w.heap.size w u9) := ⟨step1 HB'.out (Nat.le_refl _) hb1⟩
      clear hb1
      go_wp2_with fail
      go_ret
      exact ⟨rfl, HB'.out⟩

/-- THE WALK over every list -/
theorem split_any (inv : Bool) (a : Option Addr) (cap : Nat) (ss : List ByteArray) (n : ByteArray) (i : Int) (w : World) (hr : StrRow w a ss) (hnil : a = none → cap = 0 ∧ ss = []) (hl : ss.length ≤ maxLen) (hs : ∀ s ∈ ss, s.size ≤ maxLen) (hn : n.size ≤ maxLen) :
    Calls Try.prog 4 #[.bool inv, .slice a ss.length cap, .string n, .int .i64 i] w fun e w' => e = .returned (.bool true) ∧ Below w.heap.size w w' := by
  by_cases hz : 65536 < ss.length ∨ 1048576 < n.size
  · exact split_big inv a cap ss n i w hr hl hs hn hz
  cases a with
  | none =>
    obtain ⟨rfl, rfl⟩ := hnil rfl
    by_cases hi : i = 0
    · subst hi; exact split_nil inv n w (by omega)
    · exact split_nil_out inv n i (by omega) w (by omega)
  | some x =>
    by_cases hi : i < 0 ∨ (ss.length : Int) < i
    · exact split_out inv x cap ss n i hi w hr hl hs hn (by omega) (by omega)
    obtain ⟨j, rfl⟩ := Int.eq_ofNat_of_zero_le (show 0 ≤ i by omega)
    by_cases hj : j = ss.length
    · subst hj
      cases ha : anyOf (ss.take ss.length) n with
      | true => exact split_end_yes inv _ x cap ss n w hr hl hs hn (by omega) (by omega) ha rfl
      | false => exact split_end_no inv _ x cap ss n w hr hl hs hn (by omega) (by omega) ha rfl
    · cases ha : anyOf (ss.take j) n with
      | true => exact split_lt_yes inv _ x cap ss n j (by omega) (by omega) w hr hl hs hn (by omega) (by omega) ha rfl
      | false => exact split_lt_no inv _ x cap ss n j (by omega) (by omega) w hr hl hs hn (by omega) (by omega) ha rfl
end Mat
end Go.Proofs.Qxb6617779a
