import Derived.Test.Qxb6617867aSkip
import Derived.Laws.CopyOwn
namespace Go.Proofs.Qxb6617867a
open Go.RowKit
namespace Cfg

/-! ### the plain law -/

/-- skipBlanks over a text that ends in a line feed, and over what follows it -/
theorem sk_cut (B : List Int) : ∀ (A : List Int) (cm : Bool) (l : Int), (∀ x ∈ A, 0 ≤ x ∧ x ≤ 255) →
    (∃ l1, sk cm (A ++ [10]) l = (-1, [], l1) ∧ sk cm (A ++ 10 :: B) l = sk false B l1) ∨
    (∃ c r l1, c ≠ -1 ∧ r ≠ [] ∧ sk cm (A ++ [10]) l = (c, r, l1) ∧ sk cm (A ++ 10 :: B) l = (c, r ++ B, l1)) := by
  intro A
  induction A with
  | nil => intro cm l _; exact .inl ⟨inc l, by cases cm <;> simp [sk], by cases cm <;> simp [sk]⟩
  | cons x A ih =>
    intro cm l hb
    have hA : ∀ y ∈ A, 0 ≤ y ∧ y ≤ 255 := fun y hy => hb y (by simp [hy])
    have hx := hb x (by simp)
    simp only [List.cons_append, sk]
    by_cases h1 : x = 10
    · simp only [if_pos h1]; exact ih false (inc l) hA
    · simp only [if_neg h1]
      by_cases h2 : cm = true ∨ x = 32 ∨ x = 9 ∨ x = 13
      · simp only [if_pos h2]; exact ih cm l hA
      · simp only [if_neg h2]
        by_cases h3 : x = 35 ∨ x = 59
        · simp only [if_pos h3]; exact ih true l hA
        · simp only [if_neg h3]
          exact .inr ⟨x, A ++ [10], l, by omega, by simp, rfl, by simp⟩

/-- the byte that skipBlanks answers stands right before the rest -/
theorem sk_before : ∀ (xs : List Int) (cm : Bool) (l : Int) (c : Int) (r : List Int) (l' : Int), sk cm xs l = (c, r, l') → (c = -1 ∧ r = []) ∨ ∃ pre, xs = pre ++ c :: r := by
  intro xs
  induction xs with
  | nil => intro cm l c r l' h; simp only [sk, Prod.mk.injEq] at h; exact .inl ⟨h.1.symm, h.2.1.symm⟩
  | cons x xs ih =>
    intro cm l c r l' h
    simp only [sk] at h
    have go : ∀ cm2 l2, sk cm2 xs l2 = (c, r, l') → (c = -1 ∧ r = []) ∨ ∃ pre, x :: xs = pre ++ c :: r := by
      intro cm2 l2 h2
      rcases ih cm2 l2 c r l' h2 with h3 | ⟨pre, h3⟩
      · exact .inl h3
      · exact .inr ⟨x :: pre, by rw [h3]; rfl⟩
    by_cases h1 : x = 10
    · rw [if_pos h1] at h; exact go _ _ h
    · rw [if_neg h1] at h
      by_cases h2 : cm = true ∨ x = 32 ∨ x = 9 ∨ x = 13
      · rw [if_pos h2] at h; exact go _ _ h
      · rw [if_neg h2] at h
        by_cases h3 : x = 35 ∨ x = 59
        · rw [if_pos h3] at h; exact go _ _ h
        · rw [if_neg h3] at h
          simp only [Prod.mk.injEq] at h
          obtain ⟨rfl, rfl, rfl⟩ := h
          exact .inr ⟨[], rfl⟩

theorem info5 : (Try.prog.info? 5).map (fun i => (i.zero, i.size, i.bytes)) = some (some (.int .u8 0), 1, 1) := by kernel_rfl
theorem sizes5 : (Try.prog.info? 5).map (·.size) = some 1 := by kernel_rfl

/-- bytes as values (a definition of its own, so that the walk leaves it standing) -/
def bvals (xs : List Int) : List Value := xs.map fun (n : Int) => Value.int .u8 n

/-- the call's own slice of bytes, k of them in a row with room for c, made in the world w0 -/
structure OwnB (w0 wr : World) (k c : Nat) (xs : List Int) : Prop where
  own : wr.ownsRow w0.heap.size 5 1 (.slice (some ⟨w0.heap.size, 0, none⟩) k c) k (bvals xs)
  below : Below w0.heap.size w0 wr

theorem one_cellB (n : Int) : ∀ u ∈ [Value.int .u8 n], u.oneCell' = true := by
  intro u hu; simp at hu; subst hu; rfl

theorem cell_newB (W : World) (n : Int) : ∀ j u, [Value.int .u8 n][j]? = some u → (W.alloc (.cells #[.int .u8 n] 5)).cell? ((⟨W.heap.size, 0, none⟩ : Addr).add j) = some u := by
  intro j u hj
  match j, hj with
  | 0, hj => simp at hj; subst hj; simp [Addr.add]

theorem OwnB.step {w wr w1 : World} {k c : Nat} {xs : List Int} {p : Int} (h : OwnB w wr k c xs)
    (h1 : w1.ownsRow w.heap.size 5 1 (.slice (some ⟨w.heap.size, 0, none⟩) (k + 1) c) (k + 1) (bvals xs ++ [.int .u8 p])) (h2 : (wr.alloc (.cells #[.int .u8 p] 5)).grownBy w1 (some w.heap.size)) :
    OwnB w w1 (k + 1) c (xs ++ [p]) := by
  refine ⟨by simpa [bvals] using h1, ?_⟩
  exact (h.below.alloc h.below.size _).grown h2 (Nat.le_trans h.below.size (by simp)) (fun k hk => by simp at hk; omega)

theorem OwnB.row {w wr : World} {k c : Nat} {xs : List Int} (h : OwnB w wr k c xs) : ByteRow wr wr.heap.size (some ⟨w.heap.size, 0, none⟩) xs := by
  refine .inr ⟨_, 0, rfl, (h.own.lt w.heap.size rfl).2, fun j hj => ?_⟩
  have h1 := h.own.cells (g := w.heap.size) rfl j (.int .u8 (xs.getD j 0)) (by simp [bvals, List.getD, List.getElem?_eq_getElem hj])
  have hadd : (⟨w.heap.size, 0, none⟩ : Addr).add j = ⟨w.heap.size, 0 + j, none⟩ := Addr.add_lit ..
  rw [hadd] at h1
  exact h1

/-- 'make([]byte, 0, n)' -/
theorem make_run (w : World) (n : Nat) (hn : n ≤ 1048576) :
    ∃ w1, (Instr.makeSlice 22 (.int .i64 0) (.int .i64 (n : Int))).run Try.prog w = .ok (.slice (some ⟨w.heap.size, 0, none⟩) 0 n) w1 ∧ OwnB w w1 0 n [] := by
  obtain ⟨ti, hti, hz0, hz1, hz2⟩ := info_parts info5
  obtain ⟨w1, h1, h2, h3⟩ := run_make_own (P := Try.prog) w w.heap.size 22 5 ti (.int .u8 0) 1 Try.underlying22 hti hz0 hz1 .i64 .i64 n (by rw [hz2]; omega) (by unfold maxLen; omega) (Nat.le_refl _)
  exact ⟨w1, h1, h2, (Below.refl _ _).grown h3 (Nat.le_refl _) (fun k hk => by cases hk)⟩

/-- 'zzc := make([]byte, len(b)); copy(zzc, b)' -/
theorem copy_run (a : Option Addr) (cap : Nat) (xs : List Int) (w : World) (hr : ByteRow w w.heap.size a xs) (hz : xs.length ≤ 1048576) :
    ∃ wA wB, (Instr.makeSlice 22 (.int .i64 xs.length) (.int .i64 xs.length)).run Try.prog w = .ok (.slice (some ⟨w.heap.size, 0, none⟩) xs.length xs.length) wA ∧
      (∀ ty, (Builtin.copy_ #[22, 22] ty #[.slice (some ⟨w.heap.size, 0, none⟩) xs.length xs.length, .slice a xs.length cap]).run Try.prog wA = .ok (goInt xs.length) wB) ∧
      Below w.heap.size w wB ∧ ByteRow wB wB.heap.size (some ⟨w.heap.size, 0, none⟩) xs ∧ w.heap.size < wB.heap.size := by
  obtain ⟨ti, hti, hz0, hz1, hz2⟩ := info_parts info5
  have hmk := run_make (P := Try.prog) w 22 5 ti (.int .u8 0) Try.underlying22 hti hz0 .i64 .i64 xs.length xs.length (by omega) (Int.le_refl _) (by rw [hz2]; omega) (by omega)
  simp only [Int.toNat_natCast, hz1, Nat.mul_one] at hmk
  by_cases h0 : xs = []
  · subst h0
    refine ⟨_, w.alloc (.cells (madeCells (Value.int .u8 0).cells ([] : List Int).length) 5), hmk, fun ty => ?_, (Below.refl _ _).alloc (Nat.le_refl _) _, .inl rfl, by simp⟩
    exact run_copy_none (P := Try.prog) _ 22 22 ty 5 _ _ _ _ _ _ Try.underlying22 sizes5 (by simp)
  · rcases hr with h | ⟨blk, off, rfl, hbl, hc⟩
    · exact absurd h h0
    · have hnew : (w.alloc (.cells (madeCells (Value.int .u8 0).cells xs.length) 5)).heap[w.heap.size]? = some (.cells (madeCells (Value.int .u8 0).cells xs.length) 5 (0, 0)) := heap_alloc_new w _
      have hsz : (madeCells (Value.int .u8 0).cells xs.length).size = xs.length := size_madeCells _ _
      have hcp := fun ty => run_copy_row (P := Try.prog) (w.alloc (.cells (madeCells (Value.int .u8 0).cells xs.length) 5)) 22 22 ty 5 w.heap.size 0 xs.length xs.length ⟨blk, off, none⟩ xs.length cap _ 5 (bvals xs) Try.underlying22 sizes5 hnew (by simp [bvals])
        (fun j v hj => by
          have hjl : j < xs.length := by
            have := (List.getElem?_eq_some_iff.1 hj).1
            simpa [bvals] using this
          have h1 := hc j hjl
          have hadd : (⟨blk, off, none⟩ : Addr).add j = ⟨blk, off + j, none⟩ := Addr.add_lit ..
          rw [hadd, World.cell?_alloc_lt _ _ _ (World.block_lt_of_cell? w _ h1), h1]
          simpa [bvals, List.getD, List.getElem?_eq_getElem hjl] using hj) (by rw [hsz]; simp [bvals])
        (fun v hv => by simp only [bvals, List.mem_map] at hv; obtain ⟨s, _, rfl⟩ := hv; rfl)
      refine ⟨_, (w.alloc (.cells (madeCells (Value.int .u8 0).cells xs.length) 5)).setRow w.heap.size ((madeCells (Value.int .u8 0).cells xs.length).toList.take 0 ++ bvals xs ++ (madeCells (Value.int .u8 0).cells xs.length).toList.drop (0 + (bvals xs).length)).toArray, hmk, fun ty => by have h9 := hcp ty; rw [show (bvals xs).length = xs.length by simp [bvals]] at h9 ⊢; exact h9, ?_, .inr ⟨_, 0, rfl, by simp, fun i hi => ?_⟩, by simp⟩
      · exact below_setRow ((Below.refl _ _).alloc (Nat.le_refl _) _) (Nat.le_refl _) _
      · rw [cell_of_row _ _ _ _ _ _ (setRow_heap _ _ _ _ _ _ hnew)]
        have hd : (madeCells (Value.int .u8 0).cells xs.length).toList.drop (0 + (bvals xs).length) = [] := List.drop_eq_nil_of_le (by simp [bvals, hsz])
        rw [hd]
        simp [bvals, List.getD, List.getElem?_eq_getElem hi]
end Cfg
end Go.Proofs.Qxb6617867a
