import Derived.Test.Qxb6617867aNext
namespace Go.Proofs.Qxb6617867a
open Go.RowKit
namespace Cfg

theorem ByteRow.below {w w' : World} {B B' : Nat} {a : Option Addr} {xs : List Int} (h : ByteRow w B a xs) (hb : Below B w w') (hB : B ≤ B') : ByteRow w' B' a xs := by
  rcases h with h | ⟨blk, off, rfl, hlt, hc⟩
  · exact .inl h
  · refine .inr ⟨blk, off, rfl, by omega, fun i hi => ?_⟩
    rw [hb.cell (p := ⟨blk, off + i, none⟩) hlt]
    exact hc i hi

theorem ByteRow.drewN {w : World} {B : Nat} {a : Option Addr} {xs : List Int} (h : ByteRow w B a xs) (n : Nat) : ByteRow (w.drewN n) B a xs :=
  h.below (below_drewN (Below.refl _ _) n) (Nat.le_refl _)

/-- ZZNext hands out what next reads; the rest is told anew in the world it leaves -/
structure Out (w w' : World) (e : Ending) (c : Int) (a : Option Addr) (xs : List Int) (cap : Nat) (l : Int) : Prop where
  ret : e = .returned (.tuple #[.int .i64 c, .slice a xs.length cap, .int .i64 l])
  row : ByteRow w' w.heap.size a xs
  len : xs.length ≤ cap
  below : Below w.heap.size w w'

set_option maxHeartbeats 400000 in
theorem zzNext_any (a : Option Addr) (xs : List Int) (cap : Nat) (l : Int) (w : World) (hr : ByteRow w w.heap.size a xs) (hl : xs.length ≤ cap) (hs : xs.length ≤ 1048576) (hb : ∀ x ∈ xs, 0 ≤ x ∧ x ≤ 255) :
    Calls Try.prog 7 #[.slice a xs.length cap, .int .i64 l] w fun e w' => ∃ a' cap', Out w w' e (nextC xs) a' (nextR xs) cap' (nextL l xs) := by
  have HR : Kept (ByteRow w w.heap.size a xs) := ⟨hr⟩
  have HB : Kept (∀ x ∈ xs, 0 ≤ x ∧ x ≤ 255) := ⟨hb⟩
  clear hr hb
  go_enter Try.func7, Try.ntmps7
  go_wp2_with fail
  refine (next_any w.heap.size a xs cap l _ ?_).mono ?_
  · exact ⟨by simp, by simp, by simp, by simp, HR.out.below ((Below.refl _ _).alloc (Nat.le_refl _) _) (Nat.le_refl _), hl, hs, HB.out⟩
  rintro e w1 ⟨rfl, ⟨a', cap', hp⟩, hbel, hsz⟩
  have h0 := hp.text
  have h1 := hp.line
  have HP : Kept (Par w1 w.heap.size a' (nextR xs) cap' (nextL l xs)) := ⟨hp⟩
  have HBel : Kept (Below w.heap.size w w1) := ⟨((Below.refl _ _).alloc (Nat.le_refl _) _).trans hbel⟩
  clear hp hbel hsz
  go_wp2_with fail
  go_quiet (fail)
  go_wp2_with fail
  go_ret3
  exact ⟨a', cap', rfl, HP.out.row.drewN nq, HP.out.len, below_drewN HBel.out nq⟩

theorem ret_bool {a b : Bool} (h : a = b) : Ending.returned (.bool a) = .returned (.bool b) := by rw [h]

theorem ByteRow.at {w : World} {B : Nat} {a : Option Addr} {xs : List Int} (h : ByteRow w B a xs) {k : Nat} (hk : k < xs.length) :
    ∃ blk off, a = some ⟨blk, off, none⟩ ∧ w.cell? ⟨blk, off + k, none⟩ = some (.int .u8 (xs.getD k 0)) := by
  rcases h with h | ⟨blk, off, rfl, _, hc⟩
  · rw [h] at hk; simp at hk
  · exact ⟨blk, off, rfl, hc k hk⟩

theorem take_succ' (xs : List Int) (k : Nat) (hk : k < xs.length) : xs.take (k + 1) = xs.take k ++ [xs.getD k 0] := by
  rw [List.take_succ_eq_append_getElem hk]
  simp [List.getD, List.getElem?_eq_getElem hk]

set_option maxHeartbeats 400000 in
/-- zzSameBytes: are the bytes the same? -/
theorem same_any (a a2 : Option Addr) (xs ys : List Int) (cap cap2 : Nat) (w : World) (B : Nat) (hr : ByteRow w B a xs) (hr2 : ByteRow w B a2 ys) (hs : xs.length ≤ 1048576) (_hs2 : ys.length ≤ 1048576) :
    Calls Try.prog 8 #[.slice a xs.length cap, .slice a2 ys.length cap2] w fun e w' => e = .returned (.bool (decide (xs = ys))) ∧ ∃ q, w' = w.drewN q := by
  have HR : Kept (ByteRow w B a xs) := ⟨hr⟩
  have HR2 : Kept (ByteRow w B a2 ys) := ⟨hr2⟩
  clear hr hr2
  by_cases hlen : xs.length = ys.length
  · have HL : Kept (xs.length = ys.length) := ⟨hlen⟩
    have hl2 : ((xs.length : Int) != (ys.length : Int)) = false := by rw [hlen]; simp
    clear hlen
    go_enter Try.func8, Try.ntmps8
    go_wp2
    go_loopw [5] (fun i wr => ∃ k q : Nat, k ≤ xs.length ∧ i = .int .i64 k ∧ Kept (xs.take k = ys.take k) ∧ wr = w.drewN q) (fun i _ => xs.length - (intOf i).toNat)
    case atStart => exact ⟨0, 0, Nat.zero_le _, rfl, ⟨rfl⟩, rfl⟩
    case round =>
      obtain ⟨k, q, hk, rfl, HK, rfl⟩ := hrel
      by_cases hlt : k < xs.length
      · have hlt2 : k < ys.length := by rw [← HL.out]; exact hlt
        obtain ⟨blk, off, rfl, hc1⟩ := HR.out.at hlt
        obtain ⟨blk2, off2, rfl, hc2⟩ := HR2.out.at hlt2
        have HE : Kept (xs.getD k 0 = ys.getD k 0 → xs.take (k + 1) = ys.take (k + 1)) := ⟨fun h => by rw [take_succ' xs k hlt, take_succ' ys k hlt2, HK.out, h]⟩
        have HNE : Kept (xs.getD k 0 ≠ ys.getD k 0 → decide (xs = ys) = false) := ⟨fun h => decide_eq_false (fun e => h (by rw [e]))⟩
        generalize xs.getD k 0 = x at hc1 HE HNE
        generalize ys.getD k 0 = y at hc2 HE HNE
        have i1 : (k : Int) < (xs.length : Int) := by omega
        have i2 : (k : Int) < (ys.length : Int) := by omega
        by_cases hxy : x = y
        · have hb : (x != y) = false := by rw [hxy]; simp
          have HXY : Kept (x = y) := ⟨hxy⟩
          clear hxy
          go_wp2_with fail
          go_quiet (fail)
          go_wp2_with fail
          go_roundw
          case rel => exact ⟨k + 1, q + nq, by omega, by go_num, ⟨HE.out HXY.out⟩, by simp⟩
          case measure => simp [intOf]; omega
        · have hb : (x != y) = true := by rw [bne_iff_ne]; exact hxy
          have HXY : Kept (x ≠ y) := ⟨hxy⟩
          clear hxy
          go_wp2_with fail
          go_quiet (fail)
          go_wp2_with fail
          go_ret
          exact ⟨ret_bool (HNE.out HXY.out).symm, q + nq, by simp⟩
      · go_wp2_with fail
        go_ret
        have h1 := HK.out
        have h2 := HL.out
        rw [List.take_of_length_le (by omega), List.take_of_length_le (by omega)] at h1
        exact ⟨ret_bool (decide_eq_true h1).symm, _, rfl⟩
  · have hl2 : ((xs.length : Int) != (ys.length : Int)) = true := by rw [bne_iff_ne]; omega
    have HL : Kept (xs.length ≠ ys.length) := ⟨hlen⟩
    clear hlen
    go_enter Try.func8, Try.ntmps8
    go_wp2
    go_ret
    exact ⟨ret_bool (decide_eq_false (fun e => HL.out (by rw [e]))).symm, 0, rfl⟩

theorem same_val (a a2 : Option Addr) (len len2 : Nat) (xs ys : List Int) (cap cap2 : Nat) (w : World) (B : Nat) (hl : len = xs.length) (hl2 : len2 = ys.length) (hr : ByteRow w B a xs) (hr2 : ByteRow w B a2 ys) (hs : xs.length ≤ 1048576) (h : xs = ys) :
    Calls Try.prog 8 #[.slice a len cap, .slice a2 len2 cap2] w fun e w' => e = .returned (.bool true) ∧ ∃ q, w' = w.drewN q := by
  subst hl; subst hl2
  have := same_any a a2 xs ys cap cap2 w B hr hr2 hs (by rw [← h]; exact hs)
  rwa [decide_eq_true h] at this
end Cfg
end Go.Proofs.Qxb6617867a
