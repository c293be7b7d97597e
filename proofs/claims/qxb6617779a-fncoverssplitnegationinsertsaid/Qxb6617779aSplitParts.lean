import Derived.Test.Qxb6617779aInsert
namespace Go.Proofs.Qxb6617779a
open Go.RowKit
namespace Mat

set_option maxHeartbeats 800000 in
/-- zzBytes: it answers; where it answers true all lengths are at most 1<<20 -/
theorem bytes_any (inv : Bool) (a : Option Addr) (cap : Nat) (ss : List ByteArray) (n : ByteArray) (i : Int) (w : World) (hr : StrRow w a ss) (hl : ss.length ≤ maxLen) (hs : ∀ s ∈ ss, s.size ≤ maxLen) (hn : n.size ≤ maxLen) :
    Calls Try.prog 9 #[.bool inv, .slice a ss.length cap, .string n, .int .i64 i] w fun e w' => w' = w ∧
      (e = .returned (.bool false) ∨ (e = .returned (.bool true) ∧ ss.length ≤ 1048576 ∧ (∀ s ∈ ss, s.size ≤ 1048576) ∧ n.size ≤ 1048576)) := by
  unfold maxLen at hl hn
  have HR : Kept (StrRow w a ss) := ⟨hr⟩
  have HS : Kept (∀ s ∈ ss, s.size ≤ maxLen) := ⟨hs⟩
  clear hr hs
  by_cases c0 : 1048576 < ss.length
  · go_enter Try.func9, Try.ntmps9
    go_wp2
    go_ret
    exact ⟨rfl, .inl rfl⟩
  go_enter Try.func9, Try.ntmps9
  go_wp2
  go_loop [9, 10] (fun z kk => ∃ k t : Nat, k ≤ ss.length ∧ t ≤ 1048576 ∧ kk = .int .i64 k ∧ z = .int .i64 t ∧ Kept (∀ j, j < k → (ss.getD j ByteArray.empty).size ≤ 1048576)) (fun _ kk => ss.length - (intOf kk).toNat)
  case atStart => exact ⟨0, ss.length, Nat.zero_le _, by omega, rfl, rfl, ⟨fun j hj => absurd hj (Nat.not_lt_zero _)⟩⟩
  case round =>
    obtain ⟨k, t, hk, ht, rfl, rfl, HK⟩ := hrel
    by_cases hlt : k < ss.length
    · obtain ⟨blk, off, rfl, hcell⟩ := HR.out.at (Below.refl _ _) hlt
      have hpz : (ss.getD k ByteArray.empty).size ≤ 2 ^ 63 - 1 := by
        simp only [List.getD, List.getElem?_eq_getElem hlt, Option.getD_some]; exact HS.out _ (List.getElem_mem _)
      have HE : Kept ((ss.getD k ByteArray.empty).size ≤ 1048576 → ∀ j, j < k + 1 → (ss.getD j ByteArray.empty).size ≤ 1048576) := by
        constructor
        intro h j hj
        rcases Nat.lt_or_eq_of_le (Nat.le_of_lt_succ hj) with h1 | h1
        · exact HK.out j h1
        · rw [h1]; exact h
      generalize ss.getD k ByteArray.empty = p at hcell hpz HE
      by_cases hp1 : 1048576 < p.size
      · go_wp2
        go_ret
        exact ⟨rfl, .inl rfl⟩
      by_cases hp2 : 1048576 < t + p.size
      · go_wp2
        go_ret
        exact ⟨rfl, .inl rfl⟩
      · go_wp2
        go_round
        case rel => exact ⟨k + 1, t + p.size, by omega, by omega, by go_num, by go_num, ⟨HE.out (by omega)⟩⟩
        case measure => simp [intOf]; omega
    · obtain rfl : k = ss.length := by omega
      have HA : Kept (∀ s ∈ ss, s.size ≤ 1048576) := by
        constructor
        intro s hs
        obtain ⟨j, hj, rfl⟩ := List.getElem_of_mem hs
        have := HK.out j hj
        simpa only [List.getD, List.getElem?_eq_getElem hj, Option.getD_some] using this
      by_cases hn1 : 1048576 < n.size
      · go_wp2
        go_ret
        exact ⟨rfl, .inl rfl⟩
      by_cases hn2 : 1048576 < t + n.size
      · go_wp2
        go_ret
        exact ⟨rfl, .inl rfl⟩
      · go_wp2
        go_ret
        exact ⟨rfl, .inr ⟨rfl, by omega, HA.out, by omega⟩⟩

theorem sizes9 : (Try.prog.info? 9).map (·.size) = some 1 := by kernel_rfl

/-- 'zzc := make([]string, len(names)); copy(zzc, names)' -/
theorem copy_run (a : Option Addr) (cap : Nat) (ss : List ByteArray) (w : World) (hr : StrRow w a ss) (hz : ss.length ≤ 65536) :
    ∃ wA wB, (Instr.makeSlice 27 (.int .i64 ss.length) (.int .i64 ss.length)).run Try.prog w = .ok (.slice (some ⟨w.heap.size, 0, none⟩) ss.length ss.length) wA ∧
      (∀ ty, (Builtin.copy_ #[27, 27] ty #[.slice (some ⟨w.heap.size, 0, none⟩) ss.length ss.length, .slice a ss.length cap]).run Try.prog wA = .ok (goInt ss.length) wB) ∧
      Below w.heap.size w wB ∧ StrRow wB (some ⟨w.heap.size, 0, none⟩) ss := by
  obtain ⟨ti, hti, hz0, hz1, hz2⟩ := info_parts info9
  have hmk := run_make (P := Try.prog) w 27 9 ti (.string ByteArray.empty) Try.underlying27 hti hz0 .i64 .i64 ss.length ss.length (by omega) (Int.le_refl _) (by rw [hz2]; omega) (by omega)
  simp only [Int.toNat_natCast, hz1, Nat.mul_one] at hmk
  by_cases h0 : ss = []
  · subst h0
    refine ⟨_, w.alloc (.cells (madeCells (Value.string ByteArray.empty).cells ([] : List ByteArray).length) 9), hmk, fun ty => ?_, (Below.refl _ _).alloc (Nat.le_refl _) _, .inl rfl⟩
    exact run_copy_none (P := Try.prog) _ 27 27 ty 9 _ _ _ _ _ _ Try.underlying27 sizes9 (by simp)
  · rcases hr with h | ⟨blk, off, rfl, hc⟩
    · exact absurd h h0
    · have hnew : (w.alloc (.cells (madeCells (Value.string ByteArray.empty).cells ss.length) 9)).heap[w.heap.size]? = some (.cells (madeCells (Value.string ByteArray.empty).cells ss.length) 9 (0, 0)) := heap_alloc_new w _
      have hsz : (madeCells (Value.string ByteArray.empty).cells ss.length).size = ss.length := size_madeCells _ _
      have hcp := fun ty => run_copy_row (P := Try.prog) (w.alloc (.cells (madeCells (Value.string ByteArray.empty).cells ss.length) 9)) 27 27 ty 9 w.heap.size 0 ss.length ss.length ⟨blk, off, none⟩ ss.length cap _ 9 (svals ss) Try.underlying27 sizes9 hnew (by simp [svals])
        (fun j v hj => by
          have hjl : j < ss.length := by
            have := (List.getElem?_eq_some_iff.1 hj).1
            simpa [svals] using this
          have h1 := hc j hjl
          have hadd : (⟨blk, off, none⟩ : Addr).add j = ⟨blk, off + j, none⟩ := Addr.add_lit ..
          rw [hadd, World.cell?_alloc_lt _ _ _ (World.block_lt_of_cell? w _ h1), h1]
          simpa [svals, List.getD, List.getElem?_eq_getElem hjl] using hj) (by rw [hsz]; simp [svals])
        (fun v hv => by simp only [svals, List.mem_map] at hv; obtain ⟨s, _, rfl⟩ := hv; rfl)
      refine ⟨_, (w.alloc (.cells (madeCells (Value.string ByteArray.empty).cells ss.length) 9)).setRow w.heap.size ((madeCells (Value.string ByteArray.empty).cells ss.length).toList.take 0 ++ svals ss ++ (madeCells (Value.string ByteArray.empty).cells ss.length).toList.drop (0 + (svals ss).length)).toArray, hmk, fun ty => by have h9 := hcp ty; rw [show (svals ss).length = ss.length by simp [svals]] at h9 ⊢; exact h9, ?_, .inr ⟨_, 0, rfl, fun i hi => ?_⟩⟩
      · exact below_setRow ((Below.refl _ _).alloc (Nat.le_refl _) _) (Nat.le_refl _) _
      · rw [cell_of_row _ _ _ _ _ _ (setRow_heap _ _ _ _ _ _ hnew)]
        have hd : (madeCells (Value.string ByteArray.empty).cells ss.length).toList.drop (0 + (svals ss).length) = [] := List.drop_eq_nil_of_le (by simp [svals, hsz])
        rw [hd]
        simp [svals, List.getD, List.getElem?_eq_getElem hi]
end Mat
end Go.Proofs.Qxb6617779a
