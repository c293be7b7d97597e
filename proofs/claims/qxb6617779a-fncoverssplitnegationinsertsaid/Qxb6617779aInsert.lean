import Derived.Test.Qxb6617779aMatch
import Derived.Laws.CopyOwn
namespace Go.Proofs.Qxb6617779a
open Go.RowKit
namespace Mat

theorem info9 : (Try.prog.info? 9).map (fun i => (i.zero, i.size, i.bytes)) = some (some (.string ByteArray.empty), 1, 16) := by kernel_rfl

/-- strings as values (a definition of its own, so that the walk leaves it standing) -/
def svals (xs : List ByteArray) : List Value := xs.map Value.string

/-- the call's own slice of strings, k of them in a row with room for c -/
structure Own (w wr : World) (k c : Nat) (xs : List ByteArray) : Prop where
  own : wr.ownsRow w.heap.size 9 1 (.slice (some ⟨w.heap.size, 0, none⟩) k c) k (svals xs)
  below : Below w.heap.size w wr

theorem one_cell (p : ByteArray) : ∀ u ∈ [Value.string p], u.oneCell' = true := by
  intro u hu; simp at hu; subst hu; rfl

theorem cell_new (W : World) (p : ByteArray) : ∀ j u, [Value.string p][j]? = some u → (W.alloc (.cells #[.string p] 9)).cell? ((⟨W.heap.size, 0, none⟩ : Addr).add j) = some u := by
  intro j u hj
  match j, hj with
  | 0, hj => simp at hj; subst hj; simp [Addr.add]

theorem Own.step {w wr w1 : World} {k c : Nat} {xs : List ByteArray} {p : ByteArray} (h : Own w wr k c xs)
    (h1 : w1.ownsRow w.heap.size 9 1 (.slice (some ⟨w.heap.size, 0, none⟩) (k + 1) c) (k + 1) (svals xs ++ [.string p])) (h2 : (wr.alloc (.cells #[.string p] 9)).grownBy w1 (some w.heap.size)) :
    Own w w1 (k + 1) c (xs ++ [p]) := by
  refine ⟨by simpa [svals] using h1, ?_⟩
  exact (h.below.alloc h.below.size _).grown h2 (Nat.le_trans h.below.size (by simp)) (fun k hk => by simp at hk; omega)

/-- the string at place k of the row, in a later world -/
theorem StrRow.at {w wr : World} {a : Option Addr} {ss : List ByteArray} (h : StrRow w a ss) (hb : Below w.heap.size w wr) {k : Nat} (hk : k < ss.length) :
    ∃ blk off, a = some ⟨blk, off, none⟩ ∧ wr.cell? ⟨blk, off + k, none⟩ = some (.string (ss.getD k ByteArray.empty)) := by
  rcases h.below hb with h | ⟨blk, off, rfl, hc⟩
  · rw [h] at hk; simp at hk
  · exact ⟨blk, off, rfl, hc k hk⟩

theorem take_snoc (ss : List ByteArray) (k : Nat) (hk : k < ss.length) : ss.take (k + 1) = ss.take k ++ [ss.getD k ByteArray.empty] := by
  rw [List.take_succ_eq_append_getElem hk]
  simp [List.getD, List.getElem?_eq_getElem hk]

/-- what stands in the list when the second loop stands at j -/
def insTo (ss : List ByteArray) (i : Nat) (x : ByteArray) (j : Nat) : List ByteArray := ss.take i ++ x :: (ss.take j).drop i

theorem insTo_start (ss : List ByteArray) (i : Nat) (x : ByteArray) : insTo ss i x i = ss.take i ++ [x] := by
  unfold insTo; rw [List.drop_eq_nil_of_le (List.length_take_le _ _)]

theorem insTo_step (ss : List ByteArray) (i : Nat) (x : ByteArray) (j : Nat) (hi : i ≤ j) (hj : j < ss.length) : insTo ss i x (j + 1) = insTo ss i x j ++ [ss.getD j ByteArray.empty] := by
  unfold insTo
  rw [take_snoc ss j hj, List.drop_append_of_le_length (by rw [List.length_take]; omega)]
  simp

theorem insTo_end (ss : List ByteArray) (i : Nat) (x : ByteArray) : insTo ss i x ss.length = ss.take i ++ x :: ss.drop i := by
  unfold insTo; rw [List.take_of_length_le (Nat.le_refl _)]

set_option maxHeartbeats 800000 in
theorem insert_any (a : Option Addr) (cap : Nat) (ss : List ByteArray) (i : Nat) (x : ByteArray) (w : World) (hr : StrRow w a ss) (hi : i ≤ ss.length) (hz : ss.length ≤ 65536) :
    Calls Try.prog 11 #[.slice a ss.length cap, .int .i64 i, .string x] w fun e w' =>
      e = .returned (.slice (some ⟨w.heap.size, 0, none⟩) (ss.length + 1) (ss.length + 1)) ∧ Own w w' (ss.length + 1) (ss.length + 1) (ss.take i ++ x :: ss.drop i) := by
  obtain ⟨ti, hti, hz0, hz1, hz2⟩ := info_parts info9
  have HR : Kept (StrRow w a ss) := ⟨hr⟩
  clear hr
  have HB0 : Kept (ti.bytes * (ss.length + 1) ≤ 281474976710656) := ⟨by rw [hz2]; omega⟩
  have HM : Kept (ss.length + 1 ≤ maxLen) := ⟨by unfold maxLen; omega⟩
  go_enter Try.func11, Try.ntmps11
  go_wp2_with (first | (at_make; refine wpList_make_own _ rfl _ _ 27 rfl w.heap.size 9 ti _ 1 Try.underlying27 hti hz0 hz1 _ _ _ (ss.length + 1) rfl rfl (by omega) HB0.out HM.out (Nat.le_refl _) ?_) | fail)
  intro w1 hown hgrow
  have HO : Kept (Own w w1 0 (ss.length + 1) []) := ⟨⟨hown, (Below.refl _ _).grown hgrow (Nat.le_refl _) (fun k hk => by cases hk)⟩⟩
  clear hown hgrow
  go_wp2_with fail
  go_loopw [7, 8] (fun v kk wr => ∃ k : Nat, k ≤ i ∧ kk = .int .i64 k ∧ v = .slice (some ⟨w.heap.size, 0, none⟩) k (ss.length + 1) ∧ Kept (Own w wr k (ss.length + 1) (ss.take k))) (fun _ kk _ => i - (intOf kk).toNat)
  case atStart => exact ⟨0, Nat.zero_le _, rfl, rfl, HO⟩
  case round =>
    obtain ⟨k, hk, rfl, rfl, HK⟩ := hrel
    clear HO
    by_cases hlt : k < i
    · obtain ⟨blk, off, rfl, hcell⟩ := HR.out.at HK.out.below (k := k) (by omega)
      have HT : Kept (ss.take (k + 1) = ss.take k ++ [ss.getD k ByteArray.empty]) := ⟨take_snoc ss k (by omega)⟩
      generalize ss.getD k ByteArray.empty = p at hcell HT
      go_wp2_with (first | (at_builtin; refine wpList_append_fits _ rfl _ _ 27 rfl w.heap.size 9 ti 1 Try.underlying27 hti hz1 w.heap.size k (ss.length + 1) _ rfl (HK.out.own.alloc _) ⟨wr.heap.size, 0, none⟩ 1 1 [.string p] rfl rfl (cell_new _ _) (one_cell _) (by omega) ?_) | fail)
      intro w2 hown hgrow
      have HK2 : Kept (Own w w2 (k + 1) (ss.length + 1) (ss.take (k + 1))) := ⟨by rw [HT.out]; exact HK.out.step hown hgrow⟩
      clear hown hgrow
      go_wp2_with fail
      go_roundw
      case rel => exact ⟨k + 1, by omega, by go_num, rfl, HK2⟩
      case measure => simp [intOf]; omega
    · obtain rfl : k = i := by omega
      go_wp2_with (first | (at_builtin; refine wpList_append_fits _ rfl _ _ 27 rfl w.heap.size 9 ti 1 Try.underlying27 hti hz1 w.heap.size k (ss.length + 1) _ rfl (HK.out.own.alloc _) ⟨wr.heap.size, 0, none⟩ 1 1 [.string x] rfl rfl (cell_new _ _) (one_cell _) (by omega) ?_) | fail)
      intro w2 hown hgrow
      have HK2 : Kept (Own w w2 (k + 1) (ss.length + 1) (insTo ss k x k)) := ⟨by rw [insTo_start]; exact HK.out.step hown hgrow⟩
      clear hown hgrow HK
      go_wp2_with fail
      go_loopw [7, 9] (fun v jj ws => ∃ j : Nat, k ≤ j ∧ j ≤ ss.length ∧ jj = .int .i64 j ∧ v = .slice (some ⟨w.heap.size, 0, none⟩) (j + 1) (ss.length + 1) ∧ Kept (Own w ws (j + 1) (ss.length + 1) (insTo ss k x j))) (fun _ jj _ => ss.length - (intOf jj).toNat)
      case atStart => exact ⟨k, Nat.le_refl _, hi, rfl, rfl, HK2⟩
      case round =>
        obtain ⟨j, hj1, hj2, rfl, rfl, HJ⟩ := hrel
        clear HK2
        by_cases hlt2 : j < ss.length
        · obtain ⟨blk, off, rfl, hcell⟩ := HR.out.at HJ.out.below hlt2
          have HT : Kept (insTo ss k x (j + 1) = insTo ss k x j ++ [ss.getD j ByteArray.empty]) := ⟨insTo_step ss k x j hj1 hlt2⟩
          generalize ss.getD j ByteArray.empty = p at hcell HT
          go_wp2_with (first | (at_builtin; refine wpList_append_fits _ rfl _ _ 27 rfl w.heap.size 9 ti 1 Try.underlying27 hti hz1 w.heap.size (j + 1) (ss.length + 1) _ rfl (HJ.out.own.alloc _) ⟨wr.heap.size, 0, none⟩ 1 1 [.string p] rfl rfl (cell_new _ _) (one_cell _) (by omega) ?_) | fail)
          intro w3 hown hgrow
          have HJ2 : Kept (Own w w3 (j + 1 + 1) (ss.length + 1) (insTo ss k x (j + 1))) := ⟨by rw [HT.out]; exact HJ.out.step hown hgrow⟩
          clear hown hgrow
          go_wp2_with fail
          go_roundw
          case rel => exact ⟨j + 1, by omega, by omega, by go_num, rfl, HJ2⟩
          case measure => simp [intOf]; omega
        · obtain rfl : j = ss.length := by omega
          go_wp2_with fail
          go_ret
          refine ⟨rfl, ?_⟩
          have h9 := HJ.out
          rw [insTo_end] at h9
          exact h9
end Mat
end Go.Proofs.Qxb6617779a
