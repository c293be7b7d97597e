import Derived.Test.Qxb6617779aRows
import Derived.WalkKit
import Derived.WalkSpells
import Derived.WalkLawsBesides
import Derived.BigQuiet
import Derived.Deep.QuietTactic
namespace Go.Proofs.Qxb6617779a
open Go.RowKit
namespace Mat

/-- the pattern p covers the name n -/
def mt (p n : List UInt8) : Bool :=
  if p.getLast? = some 42 then decide (p.length - 1 ≤ n.length) && (n.take (p.length - 1) == p.take (p.length - 1)) else n == p

theorem ret_bool {a b : Bool} (h : a = b) : Ending.returned (.bool a) = .returned (.bool b) := by rw [h]
theorem len_data (s : ByteArray) : s.data.toList.length = s.size := by simp only [Array.length_toList]; rfl
theorem extract_toList (s : ByteArray) (a b : Nat) : (s.extract a b).toList = (s.data.toList.drop a).take (b - a) := by
  obtain ⟨⟨l⟩⟩ := s
  rw [ByteArray.extract_mk]
  simp
theorem last_data (p : ByteArray) (h : 0 < p.size) : p.data.toList.getLast? = some p[p.size - 1] := by
  rw [List.getLast?_eq_getElem?, len_data, List.getElem?_eq_getElem (by rw [len_data]; omega)]
  rfl
theorem byte_eq {a b : UInt8} : a = b ↔ a.toNat = b.toNat := UInt8.toNat_inj.symm

set_option maxHeartbeats 400000 in
theorem match_star (p n : ByteArray) (w : World) (hp : p.size ≤ maxLen) (_hn : n.size ≤ maxLen) (h0 : 0 < p.size) (hs : p[p.size - 1].toNat = 42) :
    Calls Try.prog 15 #[.string p, .string n] w fun e w' => e = .returned (.bool (mt p.data.toList n.data.toList)) ∧ ∃ q, w' = w.drewN q := by
  unfold maxLen at hp
  have hm : mt p.data.toList n.data.toList = (decide (p.size - 1 ≤ n.size) && (n.data.toList.take (p.size - 1) == p.data.toList.take (p.size - 1))) := by
    unfold mt
    rw [if_pos (by rw [last_data p h0]; exact congrArg some (byte_eq.2 hs)), len_data, len_data]
  rw [hm]
  clear hm
  by_cases hle : p.size - 1 ≤ n.size
  · have hg : (p.size : Int) - 1 ≤ (n.size : Int) := by omega
    go_enter Try.func15, Try.ntmps15
    go_wp2
    go_quiet (fail)
    go_wp2
    go_ret
    exact ⟨ret_bool (by rw [extract_toList, extract_toList]; simp [hle]), _, rfl⟩
  · have hg : decide ((p.size : Int) - 1 ≤ (n.size : Int)) = false := by simp; omega
    go_enter Try.func15, Try.ntmps15
    go_wp2
    go_quiet (fail)
    go_wp2
    go_ret
    exact ⟨ret_bool (by simp [hle]), _, rfl⟩

set_option maxHeartbeats 400000 in
theorem match_plain (p n : ByteArray) (w : World) (hp : p.size ≤ maxLen) (h : ∀ h0 : 0 < p.size, p[p.size - 1].toNat ≠ 42) :
    Calls Try.prog 15 #[.string p, .string n] w fun e w' => e = .returned (.bool (mt p.data.toList n.data.toList)) ∧ ∃ q, w' = w.drewN q := by
  unfold maxLen at hp
  have hm : mt p.data.toList n.data.toList = (n.data.toList == p.data.toList) := by
    unfold mt
    rw [if_neg]
    intro e
    by_cases h0 : 0 < p.size
    · rw [last_data p h0, Option.some_inj, byte_eq] at e
      exact h h0 e
    · have h1 := len_data p
      have : p.data.toList = [] := List.eq_nil_of_length_eq_zero (by omega)
      rw [this] at e
      simp at e
  rw [hm]
  clear hm
  by_cases h0 : 0 < p.size
  · have hg := h h0
    go_enter Try.func15, Try.ntmps15
    go_wp2
    go_ret
    exact ⟨ret_bool (by rw [ByteArray.toList_eq, ByteArray.toList_eq]), 0, rfl⟩
  · have hz : p.size = 0 := by omega
    clear h
    go_enter Try.func15, Try.ntmps15
    go_wp2
    go_ret
    exact ⟨ret_bool (by rw [ByteArray.toList_eq, ByteArray.toList_eq]), 0, rfl⟩

theorem match_any (p n : ByteArray) (w : World) (hp : p.size ≤ maxLen) (hn : n.size ≤ maxLen) :
    Calls Try.prog 15 #[.string p, .string n] w fun e w' => e = .returned (.bool (mt p.data.toList n.data.toList)) ∧ ∃ q, w' = w.drewN q := by
  by_cases h0 : 0 < p.size
  · by_cases hs : p[p.size - 1].toNat = 42
    · exact match_star p n w hp hn h0 hs
    · exact match_plain p n w hp (fun _ => hs)
  · exact match_plain p n w hp (fun h => absurd h h0)

theorem match_val (p n : ByteArray) (w : World) (b : Bool) (hp : p.size ≤ maxLen) (hn : n.size ≤ maxLen) (h : mt p.data.toList n.data.toList = b) :
    Calls Try.prog 15 #[.string p, .string n] w fun e w' => e = .returned (.bool b) ∧ ∃ q, w' = w.drewN q := by
  rw [← h]; exact match_any p n w hp hn

/-- the slice at a, read in w, holds the strings ss -/
def StrRow (w : World) (a : Option Addr) (ss : List ByteArray) : Prop :=
  ss = [] ∨ ∃ blk off, a = some ⟨blk, off, none⟩ ∧ ∀ i, i < ss.length → w.cell? ⟨blk, off + i, none⟩ = some (.string (ss.getD i ByteArray.empty))

/-- one of the names covers n -/
def anyOf (ss : List ByteArray) (n : ByteArray) : Bool := ss.any fun p => mt p.data.toList n.data.toList

/-- a fact kept from the walk, behind a structure -/
structure Kept (p : Prop) : Prop where
  out : p

theorem any_no (ss : List ByteArray) (n : ByteArray) (k : Nat) (h : anyOf (ss.take k) n = false) (hk : k < ss.length) (hm : mt (ss.getD k ByteArray.empty).data.toList n.data.toList = false) : anyOf (ss.take (k + 1)) n = false := by
  unfold anyOf at h ⊢
  rw [List.take_succ_eq_append_getElem hk, List.any_append, h]
  simp only [List.getD, List.getElem?_eq_getElem hk, Option.getD_some] at hm
  simp [hm]

theorem any_yes (ss : List ByteArray) (n : ByteArray) (k : Nat) (hk : k < ss.length) (hm : mt (ss.getD k ByteArray.empty).data.toList n.data.toList = true) : anyOf ss n = true := by
  unfold anyOf
  rw [List.any_eq_true]
  refine ⟨ss[k], List.getElem_mem _, ?_⟩
  simpa only [List.getD, List.getElem?_eq_getElem hk, Option.getD_some] using hm

set_option maxHeartbeats 400000 in
theorem covers_any (b : Nat) (inv : Bool) (a : Option Addr) (cap : Nat) (ss : List ByteArray) (n : ByteArray) (w : World)
    (h0 : w.cell? ⟨b, 0, none⟩ = some (.bool inv)) (h1 : w.cell? ⟨b, 1, none⟩ = some (.slice a ss.length cap)) (hr : StrRow w a ss)
    (hz : ss.length ≤ 1048576) (hs : ∀ s ∈ ss, s.size ≤ maxLen) (hn : n.size ≤ maxLen) :
    Calls Try.prog 14 #[.pointer (some ⟨b, 0, none⟩), .string n] w fun e w' => e = .returned (.bool (anyOf ss n != inv)) ∧ ∃ q, w' = w.drewN q := by
  have HN : Kept (n.size ≤ maxLen) := ⟨hn⟩
  have HS : Kept (∀ s ∈ ss, s.size ≤ maxLen) := ⟨hs⟩
  clear hn hs
  rcases hr with rfl | ⟨blk, off, rfl, hc⟩
  · go_enter Try.func14, Try.ntmps14
    go_wp2
    go_loop [12] (fun i => i = .int .i64 0) (fun _ => 0)
    case atStart => rfl
    case round =>
      subst hrel
      go_wp2
      go_ret
      exact ⟨ret_bool (by cases inv <;> rfl), 0, rfl⟩
  · have HC : Kept (∀ i, i < ss.length → w.cell? ⟨blk, off + i, none⟩ = some (.string (ss.getD i ByteArray.empty))) := ⟨hc⟩
    clear hc
    go_enter Try.func14, Try.ntmps14
    go_wp2
    go_loopw [12] (fun i wr => ∃ k q : Nat, k ≤ ss.length ∧ i = .int .i64 k ∧ anyOf (ss.take k) n = false ∧ wr = w.drewN q) (fun i _ => ss.length - (intOf i).toNat)
    case atStart => exact ⟨0, 0, Nat.zero_le _, rfl, rfl, rfl⟩
    case round =>
      obtain ⟨k, q, hk, rfl, hno, rfl⟩ := hrel
      have HNO : Kept (anyOf (ss.take k) n = false) := ⟨hno⟩
      clear hno
      by_cases hlt : k < ss.length
      · obtain ⟨p, hp⟩ : ∃ p, ss.getD k ByteArray.empty = p := ⟨_, rfl⟩
        have hcell : w.cell? ⟨blk, off + k, none⟩ = some (.string p) := by rw [← hp]; exact HC.out k hlt
        have hpz : p.size ≤ maxLen := by rw [← hp]; simp only [List.getD, List.getElem?_eq_getElem hlt, Option.getD_some]; exact HS.out _ (List.getElem_mem _)
        have HP : Kept (ss.getD k ByteArray.empty = p) := ⟨hp⟩
        have HPZ : Kept (p.size ≤ maxLen) := ⟨hpz⟩
        clear hp hpz
        cases hm : mt p.data.toList n.data.toList with
        | true =>
          have HM : Kept (mt p.data.toList n.data.toList = true) := ⟨hm⟩
          clear hm
          go_wp2_with fail
          refine (match_val p n _ true HPZ.out HN.out HM.out).mono ?_
          rintro e w' ⟨rfl, q2, rfl⟩
          go_wp2_with fail
          go_ret
          have hy := any_yes ss n k hlt (by rw [HP.out]; exact HM.out)
          exact ⟨ret_bool (by rw [hy]; cases inv <;> rfl), _, rfl⟩
        | false =>
          have HM : Kept (mt p.data.toList n.data.toList = false) := ⟨hm⟩
          clear hm
          go_wp2_with fail
          refine (match_val p n _ false HPZ.out HN.out HM.out).mono ?_
          rintro e w' ⟨rfl, q2, rfl⟩
          go_wp2_with fail
          go_roundw
          case rel => exact ⟨k + 1, q + q2, by omega, by go_num, any_no ss n k HNO.out hlt (by rw [HP.out]; exact HM.out), by simp⟩
          case measure => simp [intOf]; omega
      · have hke : k = ss.length := by omega
        go_wp2
        go_ret
        have hno := HNO.out
        rw [List.take_of_length_le (by omega)] at hno
        exact ⟨ret_bool (by rw [hno]; cases inv <;> rfl), _, rfl⟩

theorem StrRow.below {w w' : World} {a : Option Addr} {ss : List ByteArray} (h : StrRow w a ss) (hb : Below w.heap.size w w') : StrRow w' a ss := by
  rcases h with h | ⟨blk, off, rfl, hc⟩
  · exact .inl h
  · refine .inr ⟨blk, off, rfl, fun i hi => ?_⟩
    have h1 := hc i hi
    rw [hb.cell (p := ⟨blk, off + i, none⟩) (World.block_lt_of_cell? w _ h1)]
    exact h1

set_option maxHeartbeats 400000 in
theorem zzCovers_any (inv : Bool) (a : Option Addr) (cap : Nat) (ss : List ByteArray) (n : ByteArray) (w : World) (hr : StrRow w a ss)
    (hz : ss.length ≤ 1048576) (hs : ∀ s ∈ ss, s.size ≤ maxLen) (hn : n.size ≤ maxLen) :
    Calls Try.prog 10 #[.bool inv, .slice a ss.length cap, .string n] w fun e w' => e = .returned (.bool (anyOf ss n != inv)) ∧ Below w.heap.size w w' := by
  have HN : Kept (n.size ≤ maxLen) := ⟨hn⟩
  have HS : Kept (∀ s ∈ ss, s.size ≤ maxLen) := ⟨hs⟩
  have HR : Kept (StrRow w a ss) := ⟨hr⟩
  clear hn hs hr
  go_enter Try.func10, Try.ntmps10
  go_wp2_with fail
  refine (covers_any w.heap.size inv a cap ss n _ ?_ ?_ ?_ hz HS.out HN.out).mono ?_
  · simp
  · simp
  · exact HR.out.below ((Below.refl _ _).alloc (Nat.le_refl _) _)
  rintro e w' ⟨rfl, q, rfl⟩
  go_wp2_with fail
  go_ret
  exact ⟨rfl, below_drewN ((Below.refl _ _).alloc (Nat.le_refl _) _) _⟩

theorem zzCovers_val (inv : Bool) (a : Option Addr) (len cap : Nat) (ss : List ByteArray) (n : ByteArray) (w : World) (b : Bool) (hl : len = ss.length) (hr : StrRow w a ss)
    (hz : ss.length ≤ 1048576) (hs : ∀ s ∈ ss, s.size ≤ maxLen) (hn : n.size ≤ maxLen) (h : (anyOf ss n != inv) = b) :
    Calls Try.prog 10 #[.bool inv, .slice a len cap, .string n] w fun e w' => e = .returned (.bool b) ∧ Below w.heap.size w w' := by
  subst hl; rw [← h]; exact zzCovers_any inv a cap ss n w hr hz hs hn
end Mat
end Go.Proofs.Qxb6617779a
