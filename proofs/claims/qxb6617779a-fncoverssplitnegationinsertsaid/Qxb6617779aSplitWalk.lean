import Derived.Test.Qxb6617779aSplitParts
namespace Go.Proofs.Qxb6617779a
open Go.RowKit
namespace Mat

theorem any_cut (ss : List ByteArray) (n : ByteArray) (i : Nat) : anyOf ss n = (anyOf (ss.take i) n || anyOf (ss.drop i) n) := by
  unfold anyOf
  rw [← List.any_append, List.take_append_drop]

theorem any_ins (ss : List ByteArray) (x n : ByteArray) (i : Nat) (h : mt x.data.toList n.data.toList = true) : anyOf (ss.take i ++ x :: ss.drop i) n = true := by
  unfold anyOf
  rw [List.any_append, List.any_cons, h]
  simp

theorem mt_self (l : List UInt8) : mt l l = true := by
  unfold mt
  split
  · simp
  · simp

theorem mt_any (l : List UInt8) : mt [42] l = true := by
  unfold mt
  simp

theorem StrRow.pre {w : World} {g : Nat} {ss : List ByteArray} (h : StrRow w (some ⟨g, 0, none⟩) ss) (i : Nat) : StrRow w (some ⟨g, 0, none⟩) (ss.take i) := by
  rcases h with rfl | ⟨blk, off, he, hc⟩
  · exact .inl (by simp)
  · refine .inr ⟨blk, off, he, fun j hj => ?_⟩
    rw [List.length_take] at hj
    rw [hc j (by omega)]
    simp only [List.getD]
    rw [List.getElem?_take_of_lt (by omega)]

theorem StrRow.suf {w : World} {g : Nat} {ss : List ByteArray} (h : StrRow w (some ⟨g, 0, none⟩) ss) (i : Nat) (a : Option Addr) (ha : i < ss.length → a = some ⟨g, i, none⟩) : StrRow w a (ss.drop i) := by
  by_cases hi : i < ss.length
  · rcases h with rfl | ⟨blk, off, he, hc⟩
    · simp at hi
    · simp only [Option.some.injEq, Addr.mk.injEq, and_true] at he
      obtain ⟨rfl, rfl⟩ := he
      refine .inr ⟨g, i, ha hi, fun j hj => ?_⟩
      rw [List.length_drop] at hj
      have h1 := hc (i + j) (by omega)
      rw [Nat.zero_add] at h1
      rw [h1]
      simp only [List.getD]
      rw [List.getElem?_drop]
  · exact .inl (List.drop_eq_nil_of_le (by omega))

theorem ins_len (ss : List ByteArray) (x : ByteArray) (i : Nat) (hi : i ≤ ss.length) : ss.length + 1 = (ss.take i ++ x :: ss.drop i).length := by
  simp only [List.length_append, List.length_take, List.length_cons, List.length_drop]; omega

theorem ins_sz (ss : List ByteArray) (x : ByteArray) (i : Nat) (h : ∀ s ∈ ss, s.size ≤ maxLen) (hx : x.size ≤ maxLen) : ∀ s ∈ ss.take i ++ x :: ss.drop i, s.size ≤ maxLen := by
  intro s hs
  rcases List.mem_append.1 hs with h1 | h1
  · exact h _ (List.mem_of_mem_take h1)
  · rcases List.mem_cons.1 h1 with h2 | h2
    · rw [h2]; exact hx
    · exact h _ (List.mem_of_mem_drop h2)

theorem step1 {B : Nat} {W u u' : World} (h : Below B W u) (hB : B ≤ W.heap.size) (hc : Below u.heap.size u u') : Below B W u' := h.trans (hc.mono (Nat.le_trans hB h.size))

theorem Own.row {w wr : World} {k c : Nat} {xs : List ByteArray} (h : Own w wr k c xs) : StrRow wr (some ⟨w.heap.size, 0, none⟩) xs := by
  refine .inr ⟨_, 0, rfl, fun i hi => ?_⟩
  have h1 := h.own.cells (g := w.heap.size) rfl i (.string (xs.getD i ByteArray.empty)) (by simp [svals, List.getD, List.getElem?_eq_getElem hi])
  rw [Nat.zero_add]
  have hadd : (⟨w.heap.size, 0, none⟩ : Addr).add i = ⟨w.heap.size, 0 + i, none⟩ := Addr.add_lit ..
  rw [hadd, Nat.zero_add] at h1
  exact h1

set_option maxHeartbeats 2000000 in
theorem split_lt_yes (inv b : Bool) (x : Addr) (cap : Nat) (ss : List ByteArray) (n : ByteArray) (i : Nat) (hi : i < ss.length) (_hne : ¬ ss.length = i) (w : World) (hr : StrRow w (some x) ss) (hl : ss.length ≤ maxLen) (hs : ∀ s ∈ ss, s.size ≤ maxLen) (hn : n.size ≤ maxLen)
    (hz1 : ss.length ≤ 65536) (hz2 : n.size ≤ 1048576) (ha : anyOf (ss.take i) n = true) (hb : anyOf (ss.drop i) n = b) :
    Calls Try.prog 4 #[.bool inv, .slice (some x) ss.length cap, .string n, .int .i64 ((i : Nat) : Int)] w fun e w' => e = .returned (.bool true) ∧ Below w.heap.size w w' := by
  obtain ⟨wA, wB, hmk, hcp, HB, HR⟩ := copy_run (some x) cap ss w hr hz1
  have HN : Kept (n.size ≤ maxLen) := ⟨hn⟩
  have HS : Kept (∀ s ∈ ss, s.size ≤ maxLen) := ⟨hs⟩
  have HR0 : Kept (StrRow w (some x) ss) := ⟨hr⟩
  have HB' : Kept (Below w.heap.size w wB) := ⟨HB⟩
  have HR' : Kept (StrRow wB (some ⟨w.heap.size, 0, none⟩) ss) := ⟨HR⟩
  have HAl : Kept (anyOf ss n = (true || b)) := ⟨by rw [any_cut ss n i, ha, hb]⟩
  have HAa : Kept (anyOf (ss.take i) n = true) := ⟨ha⟩
  have HAb : Kept (anyOf (ss.drop i) n = b) := ⟨hb⟩
  clear hr hs hn HB HR ha hb
  go_enter Try.func4, Try.ntmps4
  go_wp2_with fail
  refine (bytes_any inv (some x) cap ss n _ w HR0.out hl HS.out HN.out).mono ?_
  rintro e w1 ⟨hw, hh⟩
  have hw' := hw.symm
  subst hw'
  clear hw
  rcases hh with rfl | ⟨rfl, _, hall, _⟩
  · go_wp2_with fail
    go_ret
    exact ⟨rfl, Below.refl _ _⟩
  have HA : Kept (∀ s ∈ ss, s.size ≤ 1048576) := ⟨hall⟩
  clear hall
  go_wp2_with fail
  clear hmk hcp
  go_loop [10, 11] (fun t kk => ∃ k z : Nat, k ≤ ss.length ∧ z ≤ 1048576 ∧ kk = .int .i64 k ∧ t = .int .i64 z) (fun _ kk => ss.length - (intOf kk).toNat)
  case atStart => exact ⟨0, n.size, Nat.zero_le _, hz2, rfl, rfl⟩
  case round =>
    obtain ⟨k, z, hk, hz, rfl, rfl⟩ := hrel
    by_cases hlt : k < ss.length
    · obtain ⟨blk, off, hab, hcell⟩ := HR'.out.at (Below.refl _ _) hlt
      simp only [Option.some.injEq, Addr.mk.injEq, and_true] at hab
      obtain ⟨rfl, rfl⟩ := hab
      rw [Nat.zero_add] at hcell
      have hpz : (ss.getD k ByteArray.empty).size ≤ 1048576 := by
        simp only [List.getD, List.getElem?_eq_getElem hlt, Option.getD_some]; exact HA.out _ (List.getElem_mem _)
      generalize ss.getD k ByteArray.empty = p at hcell hpz
      by_cases hbig : 1048576 < z + (16 + p.size)
      · go_wp2_with fail
        go_ret
        exact ⟨rfl, HB'.out⟩
      · go_wp2_with fail
        go_round
        case rel => exact ⟨k + 1, z + (16 + p.size), by omega, by omega, by go_num, by go_num⟩
        case measure => simp [intOf]; omega
    · obtain rfl : k = ss.length := by omega
      cases inv
      all_goals
        go_wp2_with fail
        refine (zzCovers_val _ _ _ _ ss n _ _ rfl HR'.out (by omega) HS.out HN.out (by rw [HAl.out])).mono ?_
        rintro e u1 ⟨rfl, hb1⟩
        replace HR' : Kept (StrRow u1 (some ⟨w.heap.size, 0, none⟩) ss) := ⟨HR'.out.below hb1⟩
        replace HB' : Kept (Below w.heap.size w u1) := ⟨step1 HB'.out (Nat.le_refl _) hb1⟩
        clear hb1
        go_wp2_with fail
        refine (zzCovers_val _ _ _ _ ss n _ _ rfl HR'.out (by omega) HS.out HN.out (by rw [HAl.out])).mono ?_
        rintro e u2 ⟨rfl, hb1⟩
        replace HR' : Kept (StrRow u2 (some ⟨w.heap.size, 0, none⟩) ss) := ⟨HR'.out.below hb1⟩
        replace HB' : Kept (Below w.heap.size w u2) := ⟨step1 HB'.out (Nat.le_refl _) hb1⟩
        clear hb1
        go_wp2_with fail
        refine (zzCovers_val _ _ _ _ (ss.take i) n _ _ (by rw [List.length_take]; omega) (HR'.out.pre i) (by rw [List.length_take]; omega) (fun s hs => HS.out s (List.mem_of_mem_take hs)) HN.out (by rw [HAa.out])).mono ?_
        rintro e u3 ⟨rfl, hb1⟩
        replace HR' : Kept (StrRow u3 (some ⟨w.heap.size, 0, none⟩) ss) := ⟨HR'.out.below hb1⟩
        replace HB' : Kept (Below w.heap.size w u3) := ⟨step1 HB'.out (Nat.le_refl _) hb1⟩
        clear hb1
        go_wp2_with fail
        refine (insert_any _ _ ss i n _ HR'.out (by omega) hz1).mono ?_
        rintro e u5 ⟨rfl, HI⟩
        replace HR' : Kept (StrRow u5 (some ⟨w.heap.size, 0, none⟩) ss) := ⟨HR'.out.below HI.below⟩
        replace HB' : Kept (Below w.heap.size w u5) := ⟨step1 HB'.out (Nat.le_refl _) HI.below⟩
        replace HI := Kept.mk HI.row
        go_wp2_with fail
        refine (zzCovers_val _ _ _ _ (ss.take i ++ n :: ss.drop i) n _ _ (ins_len ss n i (by omega)) HI.out (by rw [← ins_len ss n i (by omega)]; omega) (ins_sz ss n i HS.out HN.out) HN.out (by rw [any_ins ss n n i (mt_self _)])).mono ?_
        clear HI
        rintro e u6 ⟨rfl, hb1⟩
        replace HR' : Kept (StrRow u6 (some ⟨w.heap.size, 0, none⟩) ss) := ⟨HR'.out.below hb1⟩
        replace HB' : Kept (Below w.heap.size w u6) := ⟨step1 HB'.out (Nat.le_refl _) hb1⟩
        clear hb1
        go_wp2_with fail
        refine (insert_any _ _ ss i (⟨#[42]⟩ : ByteArray) _ HR'.out (by omega) hz1).mono ?_
        rintro e u7 ⟨rfl, HI⟩
        replace HR' : Kept (StrRow u7 (some ⟨w.heap.size, 0, none⟩) ss) := ⟨HR'.out.below HI.below⟩
        replace HB' : Kept (Below w.heap.size w u7) := ⟨step1 HB'.out (Nat.le_refl _) HI.below⟩
        replace HI := Kept.mk HI.row
        go_wp2_with fail
        refine (zzCovers_val _ _ _ _ (ss.take i ++ (⟨#[42]⟩ : ByteArray) :: ss.drop i) n _ _ (ins_len ss (⟨#[42]⟩ : ByteArray) i (by omega)) HI.out (by rw [← ins_len ss (⟨#[42]⟩ : ByteArray) i (by omega)]; omega) (ins_sz ss (⟨#[42]⟩ : ByteArray) i HS.out (by decide)) HN.out (by rw [any_ins ss (⟨#[42]⟩ : ByteArray) n i (mt_any _)])).mono ?_
        clear HI
        rintro e u8' ⟨rfl, hb1⟩
        replace HR' : Kept (StrRow u8' (some ⟨w.heap.size, 0, none⟩) ss) := ⟨HR'.out.below hb1⟩
        replace HB' : Kept (Below w.heap.size w u8') := ⟨step1 HB'.out (Nat.le_refl _) hb1⟩
        clear hb1
        go_wp2_with fail
        go_ret
        exact ⟨rfl, HB'.out⟩

set_option maxHeartbeats 2000000 in
theorem split_lt_no (inv b : Bool) (x : Addr) (cap : Nat) (ss : List ByteArray) (n : ByteArray) (i : Nat) (hi : i < ss.length) (hne : ¬ ss.length = i) (w : World) (hr : StrRow w (some x) ss) (hl : ss.length ≤ maxLen) (hs : ∀ s ∈ ss, s.size ≤ maxLen) (hn : n.size ≤ maxLen)
    (hz1 : ss.length ≤ 65536) (hz2 : n.size ≤ 1048576) (ha : anyOf (ss.take i) n = false) (hb : anyOf (ss.drop i) n = b) :
    Calls Try.prog 4 #[.bool inv, .slice (some x) ss.length cap, .string n, .int .i64 ((i : Nat) : Int)] w fun e w' => e = .returned (.bool true) ∧ Below w.heap.size w w' := by
  obtain ⟨wA, wB, hmk, hcp, HB, HR⟩ := copy_run (some x) cap ss w hr hz1
  have HN : Kept (n.size ≤ maxLen) := ⟨hn⟩
  have HS : Kept (∀ s ∈ ss, s.size ≤ maxLen) := ⟨hs⟩
  have HR0 : Kept (StrRow w (some x) ss) := ⟨hr⟩
  have HB' : Kept (Below w.heap.size w wB) := ⟨HB⟩
  have HR' : Kept (StrRow wB (some ⟨w.heap.size, 0, none⟩) ss) := ⟨HR⟩
  have HAl : Kept (anyOf ss n = (false || b)) := ⟨by rw [any_cut ss n i, ha, hb]⟩
  have HAa : Kept (anyOf (ss.take i) n = false) := ⟨ha⟩
  have HAb : Kept (anyOf (ss.drop i) n = b) := ⟨hb⟩
  clear hr hs hn HB HR ha hb
  go_enter Try.func4, Try.ntmps4
  go_wp2_with fail
  refine (bytes_any inv (some x) cap ss n _ w HR0.out hl HS.out HN.out).mono ?_
  rintro e w1 ⟨hw, hh⟩
  have hw' := hw.symm
  subst hw'
  clear hw
  rcases hh with rfl | ⟨rfl, _, hall, _⟩
  · go_wp2_with fail
    go_ret
    exact ⟨rfl, Below.refl _ _⟩
  have HA : Kept (∀ s ∈ ss, s.size ≤ 1048576) := ⟨hall⟩
  clear hall
  go_wp2_with fail
  clear hmk hcp
  go_loop [10, 11] (fun t kk => ∃ k z : Nat, k ≤ ss.length ∧ z ≤ 1048576 ∧ kk = .int .i64 k ∧ t = .int .i64 z) (fun _ kk => ss.length - (intOf kk).toNat)
  case atStart => exact ⟨0, n.size, Nat.zero_le _, hz2, rfl, rfl⟩
  case round =>
    obtain ⟨k, z, hk, hz, rfl, rfl⟩ := hrel
    by_cases hlt : k < ss.length
    · obtain ⟨blk, off, hab, hcell⟩ := HR'.out.at (Below.refl _ _) hlt
      simp only [Option.some.injEq, Addr.mk.injEq, and_true] at hab
      obtain ⟨rfl, rfl⟩ := hab
      rw [Nat.zero_add] at hcell
      have hpz : (ss.getD k ByteArray.empty).size ≤ 1048576 := by
        simp only [List.getD, List.getElem?_eq_getElem hlt, Option.getD_some]; exact HA.out _ (List.getElem_mem _)
      generalize ss.getD k ByteArray.empty = p at hcell hpz
      by_cases hbig : 1048576 < z + (16 + p.size)
      · go_wp2_with fail
        go_ret
        exact ⟨rfl, HB'.out⟩
      · go_wp2_with fail
        go_round
        case rel => exact ⟨k + 1, z + (16 + p.size), by omega, by omega, by go_num, by go_num⟩
        case measure => simp [intOf]; omega
    · obtain rfl : k = ss.length := by omega
      cases inv <;> cases b
      all_goals
        go_wp2_with fail
        refine (zzCovers_val _ _ _ _ ss n _ _ rfl HR'.out (by omega) HS.out HN.out (by rw [HAl.out])).mono ?_
        rintro e u1 ⟨rfl, hb1⟩
        replace HR' : Kept (StrRow u1 (some ⟨w.heap.size, 0, none⟩) ss) := ⟨HR'.out.below hb1⟩
        replace HB' : Kept (Below w.heap.size w u1) := ⟨step1 HB'.out (Nat.le_refl _) hb1⟩
        clear hb1
        go_wp2_with fail
        refine (zzCovers_val _ _ _ _ ss n _ _ rfl HR'.out (by omega) HS.out HN.out (by rw [HAl.out])).mono ?_
        rintro e u2 ⟨rfl, hb1⟩
        replace HR' : Kept (StrRow u2 (some ⟨w.heap.size, 0, none⟩) ss) := ⟨HR'.out.below hb1⟩
        replace HB' : Kept (Below w.heap.size w u2) := ⟨step1 HB'.out (Nat.le_refl _) hb1⟩
        clear hb1
        go_wp2_with fail
        refine (zzCovers_val _ _ _ _ (ss.take i) n _ _ (by rw [List.length_take]; omega) (HR'.out.pre i) (by rw [List.length_take]; omega) (fun s hs => HS.out s (List.mem_of_mem_take hs)) HN.out (by rw [HAa.out])).mono ?_
        rintro e u3 ⟨rfl, hb1⟩
        replace HR' : Kept (StrRow u3 (some ⟨w.heap.size, 0, none⟩) ss) := ⟨HR'.out.below hb1⟩
        replace HB' : Kept (Below w.heap.size w u3) := ⟨step1 HB'.out (Nat.le_refl _) hb1⟩
        clear hb1
        go_wp2_with fail
        refine (zzCovers_val _ _ _ _ (ss.drop i) n _ _ (by have h9 := List.length_drop (i := i) (l := ss); omega) (HR'.out.suf i _ (fun h => by first | rfl | (exfalso; omega))) (by have h9 := List.length_drop (i := i) (l := ss); omega) (fun s hs => HS.out s (List.mem_of_mem_drop hs)) HN.out (by rw [HAb.out])).mono ?_
        rintro e u4 ⟨rfl, hb1⟩
        replace HR' : Kept (StrRow u4 (some ⟨w.heap.size, 0, none⟩) ss) := ⟨HR'.out.below hb1⟩
        replace HB' : Kept (Below w.heap.size w u4) := ⟨step1 HB'.out (Nat.le_refl _) hb1⟩
        clear hb1
        go_wp2_with fail
        refine (insert_any _ _ ss i n _ HR'.out (by omega) hz1).mono ?_
        rintro e u5 ⟨rfl, HI⟩
        replace HR' : Kept (StrRow u5 (some ⟨w.heap.size, 0, none⟩) ss) := ⟨HR'.out.below HI.below⟩
        replace HB' : Kept (Below w.heap.size w u5) := ⟨step1 HB'.out (Nat.le_refl _) HI.below⟩
        replace HI := Kept.mk HI.row
        go_wp2_with fail
        refine (zzCovers_val _ _ _ _ (ss.take i ++ n :: ss.drop i) n _ _ (ins_len ss n i (by omega)) HI.out (by rw [← ins_len ss n i (by omega)]; omega) (ins_sz ss n i HS.out HN.out) HN.out (by rw [any_ins ss n n i (mt_self _)])).mono ?_
        clear HI
        rintro e u6 ⟨rfl, hb1⟩
        replace HR' : Kept (StrRow u6 (some ⟨w.heap.size, 0, none⟩) ss) := ⟨HR'.out.below hb1⟩
        replace HB' : Kept (Below w.heap.size w u6) := ⟨step1 HB'.out (Nat.le_refl _) hb1⟩
        clear hb1
        go_wp2_with fail
        refine (insert_any _ _ ss i (⟨#[42]⟩ : ByteArray) _ HR'.out (by omega) hz1).mono ?_
        rintro e u7 ⟨rfl, HI⟩
        replace HR' : Kept (StrRow u7 (some ⟨w.heap.size, 0, none⟩) ss) := ⟨HR'.out.below HI.below⟩
        replace HB' : Kept (Below w.heap.size w u7) := ⟨step1 HB'.out (Nat.le_refl _) HI.below⟩
        replace HI := Kept.mk HI.row
        go_wp2_with fail
        refine (zzCovers_val _ _ _ _ (ss.take i ++ (⟨#[42]⟩ : ByteArray) :: ss.drop i) n _ _ (ins_len ss (⟨#[42]⟩ : ByteArray) i (by omega)) HI.out (by rw [← ins_len ss (⟨#[42]⟩ : ByteArray) i (by omega)]; omega) (ins_sz ss (⟨#[42]⟩ : ByteArray) i HS.out (by decide)) HN.out (by rw [any_ins ss (⟨#[42]⟩ : ByteArray) n i (mt_any _)])).mono ?_
        clear HI
        rintro e u8' ⟨rfl, hb1⟩
        replace HR' : Kept (StrRow u8' (some ⟨w.heap.size, 0, none⟩) ss) := ⟨HR'.out.below hb1⟩
        replace HB' : Kept (Below w.heap.size w u8') := ⟨step1 HB'.out (Nat.le_refl _) hb1⟩
        clear hb1
        go_wp2_with fail
        go_ret
        exact ⟨rfl, HB'.out⟩

set_option maxHeartbeats 2000000 in
theorem split_end_yes (inv b : Bool) (x : Addr) (cap : Nat) (ss : List ByteArray) (n : ByteArray)  (w : World) (hr : StrRow w (some x) ss) (hl : ss.length ≤ maxLen) (hs : ∀ s ∈ ss, s.size ≤ maxLen) (hn : n.size ≤ maxLen)
    (hz1 : ss.length ≤ 65536) (hz2 : n.size ≤ 1048576) (ha : anyOf (ss.take ss.length) n = true) (hb : anyOf (ss.drop ss.length) n = b) :
    Calls Try.prog 4 #[.bool inv, .slice (some x) ss.length cap, .string n, .int .i64 ((ss.length : Nat) : Int)] w fun e w' => e = .returned (.bool true) ∧ Below w.heap.size w w' := by
  obtain ⟨wA, wB, hmk, hcp, HB, HR⟩ := copy_run (some x) cap ss w hr hz1
  have HN : Kept (n.size ≤ maxLen) := ⟨hn⟩
  have HS : Kept (∀ s ∈ ss, s.size ≤ maxLen) := ⟨hs⟩
  have HR0 : Kept (StrRow w (some x) ss) := ⟨hr⟩
  have HB' : Kept (Below w.heap.size w wB) := ⟨HB⟩
  have HR' : Kept (StrRow wB (some ⟨w.heap.size, 0, none⟩) ss) := ⟨HR⟩
  have HAl : Kept (anyOf ss n = (true || b)) := ⟨by rw [any_cut ss n ss.length, ha, hb]⟩
  have HAa : Kept (anyOf (ss.take ss.length) n = true) := ⟨ha⟩
  have HAb : Kept (anyOf (ss.drop ss.length) n = b) := ⟨hb⟩
  clear hr hs hn HB HR ha hb
  go_enter Try.func4, Try.ntmps4
  go_wp2_with fail
  refine (bytes_any inv (some x) cap ss n _ w HR0.out hl HS.out HN.out).mono ?_
  rintro e w1 ⟨hw, hh⟩
  have hw' := hw.symm
  subst hw'
  clear hw
  rcases hh with rfl | ⟨rfl, _, hall, _⟩
  · go_wp2_with fail
    go_ret
    exact ⟨rfl, Below.refl _ _⟩
  have HA : Kept (∀ s ∈ ss, s.size ≤ 1048576) := ⟨hall⟩
  clear hall
  go_wp2_with fail
  clear hmk hcp
  go_loop [10, 11] (fun t kk => ∃ k z : Nat, k ≤ ss.length ∧ z ≤ 1048576 ∧ kk = .int .i64 k ∧ t = .int .i64 z) (fun _ kk => ss.length - (intOf kk).toNat)
  case atStart => exact ⟨0, n.size, Nat.zero_le _, hz2, rfl, rfl⟩
  case round =>
    obtain ⟨k, z, hk, hz, rfl, rfl⟩ := hrel
    by_cases hlt : k < ss.length
    · obtain ⟨blk, off, hab, hcell⟩ := HR'.out.at (Below.refl _ _) hlt
      simp only [Option.some.injEq, Addr.mk.injEq, and_true] at hab
      obtain ⟨rfl, rfl⟩ := hab
      rw [Nat.zero_add] at hcell
      have hpz : (ss.getD k ByteArray.empty).size ≤ 1048576 := by
        simp only [List.getD, List.getElem?_eq_getElem hlt, Option.getD_some]; exact HA.out _ (List.getElem_mem _)
      generalize ss.getD k ByteArray.empty = p at hcell hpz
      by_cases hbig : 1048576 < z + (16 + p.size)
      · go_wp2_with fail
        go_ret
        exact ⟨rfl, HB'.out⟩
      · go_wp2_with fail
        go_round
        case rel => exact ⟨k + 1, z + (16 + p.size), by omega, by omega, by go_num, by go_num⟩
        case measure => simp [intOf]; omega
    · obtain rfl : k = ss.length := by omega
      cases inv
      all_goals
        go_wp2_with fail
        refine (zzCovers_val _ _ _ _ ss n _ _ rfl HR'.out (by omega) HS.out HN.out (by rw [HAl.out])).mono ?_
        rintro e u1 ⟨rfl, hb1⟩
        replace HR' : Kept (StrRow u1 (some ⟨w.heap.size, 0, none⟩) ss) := ⟨HR'.out.below hb1⟩
        replace HB' : Kept (Below w.heap.size w u1) := ⟨step1 HB'.out (Nat.le_refl _) hb1⟩
        clear hb1
        go_wp2_with fail
        refine (zzCovers_val _ _ _ _ ss n _ _ rfl HR'.out (by omega) HS.out HN.out (by rw [HAl.out])).mono ?_
        rintro e u2 ⟨rfl, hb1⟩
        replace HR' : Kept (StrRow u2 (some ⟨w.heap.size, 0, none⟩) ss) := ⟨HR'.out.below hb1⟩
        replace HB' : Kept (Below w.heap.size w u2) := ⟨step1 HB'.out (Nat.le_refl _) hb1⟩
        clear hb1
        go_wp2_with fail
        refine (zzCovers_val _ _ _ _ (ss.take ss.length) n _ _ (by rw [List.length_take]; omega) (HR'.out.pre ss.length) (by rw [List.length_take]; omega) (fun s hs => HS.out s (List.mem_of_mem_take hs)) HN.out (by rw [HAa.out])).mono ?_
        rintro e u3 ⟨rfl, hb1⟩
        replace HR' : Kept (StrRow u3 (some ⟨w.heap.size, 0, none⟩) ss) := ⟨HR'.out.below hb1⟩
        replace HB' : Kept (Below w.heap.size w u3) := ⟨step1 HB'.out (Nat.le_refl _) hb1⟩
        clear hb1
        go_wp2_with fail
        refine (insert_any _ _ ss ss.length n _ HR'.out (by omega) hz1).mono ?_
        rintro e u5 ⟨rfl, HI⟩
        replace HR' : Kept (StrRow u5 (some ⟨w.heap.size, 0, none⟩) ss) := ⟨HR'.out.below HI.below⟩
        replace HB' : Kept (Below w.heap.size w u5) := ⟨step1 HB'.out (Nat.le_refl _) HI.below⟩
        replace HI := Kept.mk HI.row
        go_wp2_with fail
        refine (zzCovers_val _ _ _ _ (ss.take ss.length ++ n :: ss.drop ss.length) n _ _ (ins_len ss n ss.length (by omega)) HI.out (by rw [← ins_len ss n ss.length (by omega)]; omega) (ins_sz ss n ss.length HS.out HN.out) HN.out (by rw [any_ins ss n n ss.length (mt_self _)])).mono ?_
        clear HI
        rintro e u6 ⟨rfl, hb1⟩
        replace HR' : Kept (StrRow u6 (some ⟨w.heap.size, 0, none⟩) ss) := ⟨HR'.out.below hb1⟩
        replace HB' : Kept (Below w.heap.size w u6) := ⟨step1 HB'.out (Nat.le_refl _) hb1⟩
        clear hb1
        go_wp2_with fail
        refine (insert_any _ _ ss ss.length (⟨#[42]⟩ : ByteArray) _ HR'.out (by omega) hz1).mono ?_
        rintro e u7 ⟨rfl, HI⟩
        replace HR' : Kept (StrRow u7 (some ⟨w.heap.size, 0, none⟩) ss) := ⟨HR'.out.below HI.below⟩
        replace HB' : Kept (Below w.heap.size w u7) := ⟨step1 HB'.out (Nat.le_refl _) HI.below⟩
        replace HI := Kept.mk HI.row
        go_wp2_with fail
        refine (zzCovers_val _ _ _ _ (ss.take ss.length ++ (⟨#[42]⟩ : ByteArray) :: ss.drop ss.length) n _ _ (ins_len ss (⟨#[42]⟩ : ByteArray) ss.length (by omega)) HI.out (by rw [← ins_len ss (⟨#[42]⟩ : ByteArray) ss.length (by omega)]; omega) (ins_sz ss (⟨#[42]⟩ : ByteArray) ss.length HS.out (by decide)) HN.out (by rw [any_ins ss (⟨#[42]⟩ : ByteArray) n ss.length (mt_any _)])).mono ?_
        clear HI
        rintro e u8' ⟨rfl, hb1⟩
        replace HR' : Kept (StrRow u8' (some ⟨w.heap.size, 0, none⟩) ss) := ⟨HR'.out.below hb1⟩
        replace HB' : Kept (Below w.heap.size w u8') := ⟨step1 HB'.out (Nat.le_refl _) hb1⟩
        clear hb1
        go_wp2_with fail
        go_ret
        exact ⟨rfl, HB'.out⟩

set_option maxHeartbeats 2000000 in
theorem split_end_no (inv b : Bool) (x : Addr) (cap : Nat) (ss : List ByteArray) (n : ByteArray)  (w : World) (hr : StrRow w (some x) ss) (hl : ss.length ≤ maxLen) (hs : ∀ s ∈ ss, s.size ≤ maxLen) (hn : n.size ≤ maxLen)
    (hz1 : ss.length ≤ 65536) (hz2 : n.size ≤ 1048576) (ha : anyOf (ss.take ss.length) n = false) (hb : anyOf (ss.drop ss.length) n = b) :
    Calls Try.prog 4 #[.bool inv, .slice (some x) ss.length cap, .string n, .int .i64 ((ss.length : Nat) : Int)] w fun e w' => e = .returned (.bool true) ∧ Below w.heap.size w w' := by
  obtain ⟨wA, wB, hmk, hcp, HB, HR⟩ := copy_run (some x) cap ss w hr hz1
  have HN : Kept (n.size ≤ maxLen) := ⟨hn⟩
  have HS : Kept (∀ s ∈ ss, s.size ≤ maxLen) := ⟨hs⟩
  have HR0 : Kept (StrRow w (some x) ss) := ⟨hr⟩
  have HB' : Kept (Below w.heap.size w wB) := ⟨HB⟩
  have HR' : Kept (StrRow wB (some ⟨w.heap.size, 0, none⟩) ss) := ⟨HR⟩
  have HAl : Kept (anyOf ss n = (false || b)) := ⟨by rw [any_cut ss n ss.length, ha, hb]⟩
  have HAa : Kept (anyOf (ss.take ss.length) n = false) := ⟨ha⟩
  have HAb : Kept (anyOf (ss.drop ss.length) n = b) := ⟨hb⟩
  clear hr hs hn HB HR ha hb
  go_enter Try.func4, Try.ntmps4
  go_wp2_with fail
  refine (bytes_any inv (some x) cap ss n _ w HR0.out hl HS.out HN.out).mono ?_
  rintro e w1 ⟨hw, hh⟩
  have hw' := hw.symm
  subst hw'
  clear hw
  rcases hh with rfl | ⟨rfl, _, hall, _⟩
  · go_wp2_with fail
    go_ret
    exact ⟨rfl, Below.refl _ _⟩
  have HA : Kept (∀ s ∈ ss, s.size ≤ 1048576) := ⟨hall⟩
  clear hall
  go_wp2_with fail
  clear hmk hcp
  go_loop [10, 11] (fun t kk => ∃ k z : Nat, k ≤ ss.length ∧ z ≤ 1048576 ∧ kk = .int .i64 k ∧ t = .int .i64 z) (fun _ kk => ss.length - (intOf kk).toNat)
  case atStart => exact ⟨0, n.size, Nat.zero_le _, hz2, rfl, rfl⟩
  case round =>
    obtain ⟨k, z, hk, hz, rfl, rfl⟩ := hrel
    by_cases hlt : k < ss.length
    · obtain ⟨blk, off, hab, hcell⟩ := HR'.out.at (Below.refl _ _) hlt
      simp only [Option.some.injEq, Addr.mk.injEq, and_true] at hab
      obtain ⟨rfl, rfl⟩ := hab
      rw [Nat.zero_add] at hcell
      have hpz : (ss.getD k ByteArray.empty).size ≤ 1048576 := by
        simp only [List.getD, List.getElem?_eq_getElem hlt, Option.getD_some]; exact HA.out _ (List.getElem_mem _)
      generalize ss.getD k ByteArray.empty = p at hcell hpz
      by_cases hbig : 1048576 < z + (16 + p.size)
      · go_wp2_with fail
        go_ret
        exact ⟨rfl, HB'.out⟩
      · go_wp2_with fail
        go_round
        case rel => exact ⟨k + 1, z + (16 + p.size), by omega, by omega, by go_num, by go_num⟩
        case measure => simp [intOf]; omega
    · obtain rfl : k = ss.length := by omega
      cases inv <;> cases b
      all_goals
        go_wp2_with fail
        refine (zzCovers_val _ _ _ _ ss n _ _ rfl HR'.out (by omega) HS.out HN.out (by rw [HAl.out])).mono ?_
        rintro e u1 ⟨rfl, hb1⟩
        replace HR' : Kept (StrRow u1 (some ⟨w.heap.size, 0, none⟩) ss) := ⟨HR'.out.below hb1⟩
        replace HB' : Kept (Below w.heap.size w u1) := ⟨step1 HB'.out (Nat.le_refl _) hb1⟩
        clear hb1
        go_wp2_with fail
        refine (zzCovers_val _ _ _ _ ss n _ _ rfl HR'.out (by omega) HS.out HN.out (by rw [HAl.out])).mono ?_
        rintro e u2 ⟨rfl, hb1⟩
        replace HR' : Kept (StrRow u2 (some ⟨w.heap.size, 0, none⟩) ss) := ⟨HR'.out.below hb1⟩
        replace HB' : Kept (Below w.heap.size w u2) := ⟨step1 HB'.out (Nat.le_refl _) hb1⟩
        clear hb1
        go_wp2_with fail
        refine (zzCovers_val _ _ _ _ (ss.take ss.length) n _ _ (by rw [List.length_take]; omega) (HR'.out.pre ss.length) (by rw [List.length_take]; omega) (fun s hs => HS.out s (List.mem_of_mem_take hs)) HN.out (by rw [HAa.out])).mono ?_
        rintro e u3 ⟨rfl, hb1⟩
        replace HR' : Kept (StrRow u3 (some ⟨w.heap.size, 0, none⟩) ss) := ⟨HR'.out.below hb1⟩
        replace HB' : Kept (Below w.heap.size w u3) := ⟨step1 HB'.out (Nat.le_refl _) hb1⟩
        clear hb1
        go_wp2_with fail
        refine (zzCovers_val _ _ _ _ (ss.drop ss.length) n _ _ (by have h9 := List.length_drop (i := ss.length) (l := ss); omega) (HR'.out.suf ss.length _ (fun h => by first | rfl | (exfalso; omega))) (by have h9 := List.length_drop (i := ss.length) (l := ss); omega) (fun s hs => HS.out s (List.mem_of_mem_drop hs)) HN.out (by rw [HAb.out])).mono ?_
        rintro e u4 ⟨rfl, hb1⟩
        replace HR' : Kept (StrRow u4 (some ⟨w.heap.size, 0, none⟩) ss) := ⟨HR'.out.below hb1⟩
        replace HB' : Kept (Below w.heap.size w u4) := ⟨step1 HB'.out (Nat.le_refl _) hb1⟩
        clear hb1
        go_wp2_with fail
        refine (insert_any _ _ ss ss.length n _ HR'.out (by omega) hz1).mono ?_
        rintro e u5 ⟨rfl, HI⟩
        replace HR' : Kept (StrRow u5 (some ⟨w.heap.size, 0, none⟩) ss) := ⟨HR'.out.below HI.below⟩
        replace HB' : Kept (Below w.heap.size w u5) := ⟨step1 HB'.out (Nat.le_refl _) HI.below⟩
        replace HI := Kept.mk HI.row
        go_wp2_with fail
        refine (zzCovers_val _ _ _ _ (ss.take ss.length ++ n :: ss.drop ss.length) n _ _ (ins_len ss n ss.length (by omega)) HI.out (by rw [← ins_len ss n ss.length (by omega)]; omega) (ins_sz ss n ss.length HS.out HN.out) HN.out (by rw [any_ins ss n n ss.length (mt_self _)])).mono ?_
        clear HI
        rintro e u6 ⟨rfl, hb1⟩
        replace HR' : Kept (StrRow u6 (some ⟨w.heap.size, 0, none⟩) ss) := ⟨HR'.out.below hb1⟩
        replace HB' : Kept (Below w.heap.size w u6) := ⟨step1 HB'.out (Nat.le_refl _) hb1⟩
        clear hb1
        go_wp2_with fail
        refine (insert_any _ _ ss ss.length (⟨#[42]⟩ : ByteArray) _ HR'.out (by omega) hz1).mono ?_
        rintro e u7 ⟨rfl, HI⟩
        replace HR' : Kept (StrRow u7 (some ⟨w.heap.size, 0, none⟩) ss) := ⟨HR'.out.below HI.below⟩
        replace HB' : Kept (Below w.heap.size w u7) := ⟨step1 HB'.out (Nat.le_refl _) HI.below⟩
        replace HI := Kept.mk HI.row
        go_wp2_with fail
        refine (zzCovers_val _ _ _ _ (ss.take ss.length ++ (⟨#[42]⟩ : ByteArray) :: ss.drop ss.length) n _ _ (ins_len ss (⟨#[42]⟩ : ByteArray) ss.length (by omega)) HI.out (by rw [← ins_len ss (⟨#[42]⟩ : ByteArray) ss.length (by omega)]; omega) (ins_sz ss (⟨#[42]⟩ : ByteArray) ss.length HS.out (by decide)) HN.out (by rw [any_ins ss (⟨#[42]⟩ : ByteArray) n ss.length (mt_any _)])).mono ?_
        clear HI
        rintro e u8' ⟨rfl, hb1⟩
        replace HR' : Kept (StrRow u8' (some ⟨w.heap.size, 0, none⟩) ss) := ⟨HR'.out.below hb1⟩
        replace HB' : Kept (Below w.heap.size w u8') := ⟨step1 HB'.out (Nat.le_refl _) hb1⟩
        clear hb1
        go_wp2_with fail
        go_ret
        exact ⟨rfl, HB'.out⟩

end Mat
end Go.Proofs.Qxb6617779a
