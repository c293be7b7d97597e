import Derived.Test.Qxb6617867aZZNext
namespace Go.Proofs.Qxb6617867a
open Go.RowKit
namespace Cfg

theorem info3 : (Try.prog.info? 3).map (fun i => (i.zero, i.size, i.bytes)) = some (some (.int .i64 0), 1, 8) := by kernel_rfl

/-- is there a carriage return right before a line feed at k? -/
def skip (T : List Int) (k : Nat) : Bool := decide (T.getD k 0 = 13 ∧ k + 1 < T.length ∧ T.getD (k + 1) 0 = 10)

/-- the places from p on that next hands out -/
def places (T : List Int) (p : Nat) : List Nat := (List.range' p (T.length - p)).filter fun k => !skip T k

/-- the places before p that next hands out -/
def upto (T : List Int) (p : Nat) : List Nat := (List.range p).filter fun k => !skip T k

theorem upto_yes (T : List Int) (p : Nat) (h : skip T p = true) : upto T (p + 1) = upto T p := by
  unfold upto; rw [List.range_succ, List.filter_append]; simp [h]
theorem upto_no (T : List Int) (p : Nat) (h : skip T p = false) : upto T (p + 1) = upto T p ++ [p] := by
  unfold upto; rw [List.range_succ, List.filter_append]; simp [h]
theorem upto_all (T : List Int) : upto T T.length = places T 0 := by
  unfold upto places; rw [List.range_eq_range']; simp

theorem places_end (T : List Int) (p : Nat) (h : T.length ≤ p) : places T p = [] := by
  unfold places; rw [show T.length - p = 0 by omega]; rfl
theorem places_no (T : List Int) (p : Nat) (hp : p < T.length) (h : skip T p = false) : places T p = p :: places T (p + 1) := by
  unfold places
  rw [show T.length - p = (T.length - (p + 1)) + 1 by omega, List.range'_succ, List.filter_cons]
  simp [h]
theorem places_yes (T : List Int) (p : Nat) (_hp : p < T.length) (h : skip T p = true) : places T p = (p + 1) :: places T (p + 2) := by
  have h' := h
  simp only [skip, decide_eq_true_eq] at h'
  have h2 : skip T (p + 1) = false := by
    simp only [skip, decide_eq_false_iff_not]
    omega
  rw [← places_no T (p + 1) h'.2.1 h2]
  unfold places
  rw [show T.length - p = (T.length - (p + 1)) + 1 by omega, List.range'_succ, List.filter_cons]
  simp [h]

/-- the lines counted from place p to place j -/
def cnt (T : List Int) (p : Nat) (L : Int) : Nat → Int
  | 0 => L
  | j + 1 => if T.getD (p + j) 0 = 10 then inc (cnt T p L j) else cnt T p L j

theorem drop_cons (T : List Int) (p : Nat) (hp : p < T.length) : T.drop p = T.getD p 0 :: T.drop (p + 1) := by
  rw [List.drop_eq_getElem_cons hp]
  simp [List.getD, List.getElem?_eq_getElem hp]

/-- next at a place that is handed out -/
theorem next_here (T : List Int) (p : Nat) (L : Int) (hp : p < T.length) (h : skip T p = false) : nextC (T.drop p) = T.getD p 0 ∧ nextR (T.drop p) = T.drop (p + 1) ∧ nextL L (T.drop p) = cnt T p L 1 := by
  rw [drop_cons T p hp]
  have hn : ¬ (T.getD p 0 = 13 ∧ (T.drop (p + 1)).head? = some 10) := by
    simp only [skip, decide_eq_false_iff_not] at h
    rintro ⟨h1, h2⟩
    by_cases hq : p + 1 < T.length
    · rw [drop_cons T (p + 1) hq] at h2
      simp only [List.head?_cons, Option.some_inj] at h2
      exact h ⟨h1, hq, h2⟩
    · rw [List.drop_eq_nil_of_le (by omega)] at h2
      simp at h2
  refine ⟨by simp only [nextC, if_neg hn], by simp only [nextR, if_neg hn], ?_⟩
  simp only [nextL, cnt, Nat.add_zero]
  by_cases h10 : T.getD p 0 = 10
  · rw [if_pos (.inr h10), if_pos h10]
  · rw [if_neg (fun hh => hh.elim hn h10), if_neg h10]

/-- next at a carriage return before a line feed -/
theorem next_skip (T : List Int) (p : Nat) (L : Int) (hp : p < T.length) (h : skip T p = true) : nextC (T.drop p) = T.getD (p + 1) 0 ∧ nextR (T.drop p) = T.drop (p + 2) ∧ nextL L (T.drop p) = cnt T p L 2 ∧ p + 1 < T.length := by
  simp only [skip, decide_eq_true_eq] at h
  obtain ⟨h1, h2, h3⟩ := h
  rw [drop_cons T p hp, drop_cons T (p + 1) h2, h1, h3]
  refine ⟨by simp [nextC], by simp [nextR], ?_, h2⟩
  simp only [nextL, cnt, Nat.add_zero, h1, h3]
  simp

/-- places as values (a definition of its own, so that the walk leaves it standing) -/
def ivals (xs : List Nat) : List Value := xs.map fun (n : Nat) => Value.int .i64 (n : Int)

structure OwnI (w wr : World) (c : Nat) (xs : List Nat) : Prop where
  own : wr.ownsRow w.heap.size 3 1 (.slice (some ⟨w.heap.size, 0, none⟩) xs.length c) xs.length (ivals xs)
  below : Below w.heap.size w wr

theorem one_cellI (n : Int) : ∀ u ∈ [Value.int .i64 n], u.oneCell' = true := by
  intro u hu; simp at hu; subst hu; rfl

theorem cell_newI (W : World) (n : Int) : ∀ j u, [Value.int .i64 n][j]? = some u → (W.alloc (.cells #[.int .i64 n] 3)).cell? ((⟨W.heap.size, 0, none⟩ : Addr).add j) = some u := by
  intro j u hj
  match j, hj with
  | 0, hj => simp at hj; subst hj; simp [Addr.add]

theorem OwnI.step {w wr w1 : World} {c : Nat} {xs : List Nat} {p : Nat} (h : OwnI w wr c xs)
    (h1 : w1.ownsRow w.heap.size 3 1 (.slice (some ⟨w.heap.size, 0, none⟩) (xs.length + 1) c) (xs.length + 1) (ivals xs ++ [.int .i64 (p : Int)])) (h2 : (wr.alloc (.cells #[.int .i64 (p : Int)] 3)).grownBy w1 (some w.heap.size)) :
    OwnI w w1 c (xs ++ [p]) := by
  refine ⟨by simpa [ivals] using h1, ?_⟩
  exact (h.below.alloc h.below.size _).grown h2 (Nat.le_trans h.below.size (by simp)) (fun k hk => by simp at hk; omega)

theorem upto_len (T : List Int) (p : Nat) : (upto T p).length ≤ p := by
  unfold upto; exact Nat.le_trans (List.length_filter_le _ _) (by simp)

theorem ByteRow.at' {w wr : World} {B : Nat} {a : Option Addr} {xs : List Int} (h : ByteRow w B a xs) (hb : Below B w wr) {k : Nat} (hk : k < xs.length) :
    ∃ blk off, a = some ⟨blk, off, none⟩ ∧ wr.cell? ⟨blk, off + k, none⟩ = some (.int .u8 (xs.getD k 0)) := (h.below hb (Nat.le_refl _)).at hk

theorem ByteRow.drop {w : World} {B blk off : Nat} {xs : List Int} (h : ByteRow w B (some ⟨blk, off, none⟩) xs) (k : Nat) : ByteRow w B (some ⟨blk, off + k, none⟩) (xs.drop k) := by
  rcases h with rfl | ⟨blk', off', he, hb, hc⟩
  · exact .inl (by simp)
  · simp only [Option.some.injEq, Addr.mk.injEq, and_true] at he
    obtain ⟨rfl, rfl⟩ := he
    refine .inr ⟨_, _, rfl, hb, fun i hi => ?_⟩
    rw [List.length_drop] at hi
    have h1 := hc (k + i) (by omega)
    rw [← Nat.add_assoc] at h1
    rw [h1]
    simp only [List.getD]
    rw [List.getElem?_drop]

theorem round_fact (T : List Int) (S : List Nat) (j pos : Nat) (hd : S.drop j = places T pos) (hj : j < S.length) :
    ∃ k, pos ≤ k ∧ k < T.length ∧ S.getD j 0 = k ∧ S.drop (j + 1) = places T (k + 1) ∧ nextC (T.drop pos) = T.getD k 0 ∧ nextR (T.drop pos) = T.drop (k + 1) ∧ ∀ L, nextL L (T.drop pos) = cnt T pos L (k + 1 - pos) := by
  have hS : S.drop j = S.getD j 0 :: S.drop (j + 1) := by
    rw [List.drop_eq_getElem_cons hj]
    simp [List.getD, List.getElem?_eq_getElem hj]
  have hp : pos < T.length := by
    rcases Nat.lt_or_ge pos T.length with h | h
    · exact h
    · rw [places_end T pos h, hS] at hd; cases hd
  cases hsk : skip T pos with
  | false =>
    rw [places_no T pos hp hsk, hS] at hd
    injection hd with h1 h2
    obtain ⟨c1, c2, _⟩ := next_here T pos 0 hp hsk
    exact ⟨pos, Nat.le_refl _, hp, h1, h2, c1, c2, fun L => by rw [(next_here T pos L hp hsk).2.2, show pos + 1 - pos = 1 by omega]⟩
  | true =>
    rw [places_yes T pos hp hsk, hS] at hd
    injection hd with h1 h2
    obtain ⟨c1, c2, _, c4⟩ := next_skip T pos 0 hp hsk
    exact ⟨pos + 1, by omega, c4, h1, h2, c1, c2, fun L => by rw [(next_skip T pos L hp hsk).2.2.1, show pos + 1 + 1 - pos = 2 by omega]⟩

theorem last_fact (T : List Int) (S : List Nat) (j pos : Nat) (hd : S.drop j = places T pos) (hj : S.length ≤ j) (hp : pos ≤ T.length) : pos = T.length := by
  rcases Nat.lt_or_ge pos T.length with h | h
  · rw [List.drop_eq_nil_of_le hj] at hd
    cases hsk : skip T pos with
    | false => rw [places_no T pos h hsk] at hd; cases hd
    | true => rw [places_yes T pos h hsk] at hd; cases hd
  · omega

theorem zzNext_val (a : Option Addr) (xs ys : List Int) (len cap : Nat) (l c l' : Int) (w : World) (hlen : len = xs.length) (hr : ByteRow w w.heap.size a xs) (hl : xs.length ≤ cap) (hs : xs.length ≤ 1048576) (hb : ∀ x ∈ xs, 0 ≤ x ∧ x ≤ 255)
    (hc : nextC xs = c) (hy : nextR xs = ys) (hl' : nextL l xs = l') :
    Calls Try.prog 7 #[.slice a len cap, .int .i64 l] w fun e w' => ∃ a' cap', Out w w' e c a' ys cap' l' := by
  subst hlen hc hy hl'
  exact zzNext_any a xs cap l w hr hl hs hb

theorem OwnI.seen {w wr : World} {c : Nat} {xs : List Nat} (h : OwnI w wr c xs) : w.heap.size < wr.heap.size ∧ ∀ j, j < xs.length → wr.cell? ⟨w.heap.size, j, none⟩ = some (.int .i64 ((xs.getD j 0 : Nat) : Int)) := by
  refine ⟨(h.own.lt w.heap.size rfl).2, fun j hj => ?_⟩
  have h1 := h.own.cells (g := w.heap.size) rfl j (.int .i64 ((xs.getD j 0 : Nat) : Int)) (by simp [ivals, List.getD, List.getElem?_eq_getElem hj])
  have hadd : (⟨w.heap.size, 0, none⟩ : Addr).add j = ⟨w.heap.size, 0 + j, none⟩ := Addr.add_lit ..
  rw [hadd, Nat.zero_add] at h1
  exact h1

set_option maxRecDepth 100000 in
set_option maxHeartbeats 4000000 in
theorem next_walk (a : Option Addr) (cap : Nat) (T : List Int) (line : Int) (w : World) (hr : ByteRow w w.heap.size a T) (hlc : T.length ≤ cap) (hz : T.length ≤ 65536) (hby : ∀ x ∈ T, 0 ≤ x ∧ x ≤ 255) :
    Calls Try.prog 3 #[.slice a T.length cap, .int .i64 line] w fun e w' => e = .returned (.bool true) ∧ Below w.heap.size w w' := by
  obtain ⟨ti, hti, hz0, hz1, hz2⟩ := info_parts info3
  have HR : Kept (ByteRow w w.heap.size a T) := ⟨hr⟩
  have HY : Kept (∀ x ∈ T, 0 ≤ x ∧ x ≤ 255) := ⟨hby⟩
  have HB0 : Kept (ti.bytes * T.length ≤ 281474976710656) := ⟨by rw [hz2]; omega⟩
  have HM : Kept (T.length ≤ maxLen) := ⟨by unfold maxLen; omega⟩
  clear hr hby
  go_enter Try.func3, Try.ntmps3
  go_wp2_with (first | (at_make; refine wpList_make_own _ rfl _ _ 24 rfl w.heap.size 3 ti _ 1 Try.underlying24 hti hz0 hz1 _ _ _ T.length rfl rfl (by omega) HB0.out HM.out (Nat.le_refl _) ?_) | (go_at_call 6; go_in) | fail)
  intro w1 hown hgrow
  have HO : Kept (OwnI w w1 T.length (upto T 0)) := ⟨⟨hown, (Below.refl _ _).grown hgrow (Nat.le_refl _) (fun k hk => by cases hk)⟩⟩
  clear hown hgrow
  go_wp2_with fail
  go_loopw [5, 6] (fun v kk wr => ∃ k : Nat, k ≤ T.length ∧ kk = .int .i64 k ∧ v = .slice (some ⟨w.heap.size, 0, none⟩) (upto T k).length T.length ∧ Kept (OwnI w wr T.length (upto T k))) (fun _ kk _ => T.length - (intOf kk).toNat)
  case atStart => exact ⟨0, Nat.zero_le _, rfl, rfl, HO⟩
  case round =>
    obtain ⟨k, hk, rfl, rfl, HK⟩ := hrel
    clear HO
    by_cases hlt : k < T.length
    · obtain ⟨blk, off, rfl, hcell⟩ := HR.out.at' HK.out.below hlt
      have hul := upto_len T k
      cases hsk : skip T k with
      | true =>
        have HU : Kept (upto T (k + 1) = upto T k) := ⟨upto_yes T k hsk⟩
        simp only [skip, decide_eq_true_eq] at hsk
        obtain ⟨s1, s2, s3⟩ := hsk
        obtain ⟨blk', off', he, hcell2⟩ := HR.out.at' HK.out.below s2
        simp only [Option.some.injEq, Addr.mk.injEq, and_true] at he
        obtain ⟨rfl, rfl⟩ := he
        rw [s1] at hcell
        rw [s3] at hcell2
        clear s1 s3
        go_wp2_with fail
        go_roundw
        case rel => exact ⟨k + 1, by omega, by go_num, by rw [HU.out], by rw [HU.out]; exact HK⟩
        case measure => simp [intOf]; omega
      | false =>
        have HU : Kept (upto T (k + 1) = upto T k ++ [k]) := ⟨upto_no T k hsk⟩
        simp only [skip, decide_eq_false_iff_not] at hsk
        by_cases s1 : T.getD k 0 = 13
        · rw [s1] at hcell
          by_cases s2 : k + 1 < T.length
          · have s3 : T.getD (k + 1) 0 ≠ 10 := fun h => hsk ⟨s1, s2, h⟩
            obtain ⟨blk', off', he, hcell2⟩ := HR.out.at' HK.out.below s2
            simp only [Option.some.injEq, Addr.mk.injEq, and_true] at he
            obtain ⟨rfl, rfl⟩ := he
            generalize T.getD (k + 1) 0 = y at hcell2 s3
            have s3' : (y == 10) = false := beq_eq_false_iff_ne.2 s3
            clear hsk s1
            go_wp2_with (first | (at_builtin; refine wpList_append_fits _ rfl _ _ 24 rfl w.heap.size 3 ti 1 Try.underlying24 hti hz1 w.heap.size (upto T k).length T.length _ rfl (HK.out.own.alloc _) ⟨wr.heap.size, 0, none⟩ 1 1 [.int .i64 (k : Int)] rfl rfl (cell_newI _ _) (one_cellI _) (by omega) ?_) | fail)
            intro w2 hown hgrow
            have HK2 : Kept (OwnI w w2 T.length (upto T (k + 1))) := ⟨by rw [HU.out]; exact HK.out.step hown hgrow⟩
            have HL : Kept ((upto T (k + 1)).length = (upto T k).length + 1) := ⟨by rw [HU.out]; simp⟩
            clear hown hgrow
            go_wp2_with fail
            go_roundw
            case rel => exact ⟨k + 1, by omega, by go_num, by rw [HL.out], HK2⟩
            case measure => simp [intOf]; omega
          · clear hsk s1
            go_wp2_with (first | (at_builtin; refine wpList_append_fits _ rfl _ _ 24 rfl w.heap.size 3 ti 1 Try.underlying24 hti hz1 w.heap.size (upto T k).length T.length _ rfl (HK.out.own.alloc _) ⟨wr.heap.size, 0, none⟩ 1 1 [.int .i64 (k : Int)] rfl rfl (cell_newI _ _) (one_cellI _) (by omega) ?_) | fail)
            intro w2 hown hgrow
            have HK2 : Kept (OwnI w w2 T.length (upto T (k + 1))) := ⟨by rw [HU.out]; exact HK.out.step hown hgrow⟩
            have HL : Kept ((upto T (k + 1)).length = (upto T k).length + 1) := ⟨by rw [HU.out]; simp⟩
            clear hown hgrow
            go_wp2_with fail
            go_roundw
            case rel => exact ⟨k + 1, by omega, by go_num, by rw [HL.out], HK2⟩
            case measure => simp [intOf]; omega
        · generalize T.getD k 0 = x at hcell s1
          have s1' : (x == 13) = false := beq_eq_false_iff_ne.2 s1
          clear hsk s1
          go_wp2_with (first | (at_builtin; refine wpList_append_fits _ rfl _ _ 24 rfl w.heap.size 3 ti 1 Try.underlying24 hti hz1 w.heap.size (upto T k).length T.length _ rfl (HK.out.own.alloc _) ⟨wr.heap.size, 0, none⟩ 1 1 [.int .i64 (k : Int)] rfl rfl (cell_newI _ _) (one_cellI _) (by omega) ?_) | fail)
          intro w2 hown hgrow
          have HK2 : Kept (OwnI w w2 T.length (upto T (k + 1))) := ⟨by rw [HU.out]; exact HK.out.step hown hgrow⟩
          have HL : Kept ((upto T (k + 1)).length = (upto T k).length + 1) := ⟨by rw [HU.out]; simp⟩
          clear hown hgrow
          go_wp2_with fail
          go_roundw
          case rel => exact ⟨k + 1, by omega, by go_num, by rw [HL.out], HK2⟩
          case measure => simp [intOf]; omega
    · obtain rfl : k = T.length := by omega
      go_wp2_with fail
      obtain ⟨wS, hwS⟩ : ∃ wS, wS = wr := ⟨_, rfl⟩
      subst hwS
      obtain ⟨S, hS⟩ : ∃ S, upto T T.length = S := ⟨_, rfl⟩
      have HSP : Kept (S.drop 0 = places T 0) := ⟨by rw [← upto_all, hS]; rfl⟩
      have hSl := upto_len T T.length
      rw [hS] at HK hSl ⊢
      have HN1 : Kept (w.heap.size < wS.heap.size) := ⟨HK.out.seen.1⟩
      have HSC : Kept (∀ j, j < S.length → wS.cell? ⟨w.heap.size, j, none⟩ = some (.int .i64 ((S.getD j 0 : Nat) : Int))) := ⟨HK.out.seen.2⟩
      have HBS : Kept (Below w.heap.size w wS) := ⟨HK.out.below⟩
      clear hS HK hlt hk
      go_loopw [7, 8, 9, 10, 11] (fun rest ln want ct m wr => ∃ (j pos : Nat) (L : Int) (a' : Option Addr) (cap' : Nat), pos ≤ T.length ∧ rest = .slice a' (T.length - pos) cap' ∧ ln = .int .i64 L ∧ want = .int .i64 L ∧ ct = .int .i64 pos ∧ m = .int .i64 j ∧ j ≤ S.length ∧
          Kept (S.drop j = places T pos) ∧ Kept (ByteRow wr wr.heap.size a' (T.drop pos) ∧ T.length - pos ≤ cap') ∧ Kept (Below (w.heap.size + 1) wS wr)) (fun _ _ _ _ m _ => S.length - (intOf m).toNat)
      case atStart => exact ⟨0, 0, line, a, cap, Nat.zero_le _, rfl, rfl, rfl, rfl, rfl, Nat.zero_le _, HSP, ⟨HR.out.below HBS.out (by have := HN1.out; omega), by omega⟩, ⟨Below.refl _ _⟩⟩
      case round =>
        obtain ⟨j, pos, L, a', cap', hpos, rfl, rfl, rfl, rfl, rfl, hj, HD, HRow, HBw⟩ := hrel
        clear HSP
        by_cases hjl : j < S.length
        · obtain ⟨k, hk1, hk2, hSj, hSd, hC, hR, hL⟩ := round_fact T S j pos HD.out hjl
          have hseen : wr.cell? ⟨w.heap.size, j, none⟩ = some (.int .i64 (k : Int)) := by
            rw [HBw.out.cell (p := ⟨w.heap.size, j, none⟩) (Nat.lt_succ_self _), HSC.out j hjl, hSj]
          have HSd : Kept (S.drop (j + 1) = places T (k + 1)) := ⟨hSd⟩
          have HC : Kept (nextC (T.drop pos) = T.getD k 0) := ⟨hC⟩
          have HRr : Kept (nextR (T.drop pos) = T.drop (k + 1)) := ⟨hR⟩
          have HL : Kept (nextL L (T.drop pos) = cnt T pos L (k + 1 - pos)) := ⟨hL L⟩
          clear hSj hSd hC hR hL
          have HBr : Kept (Below w.heap.size w wr) := ⟨HBS.out.trans (HBw.out.mono (Nat.le_succ _))⟩
          go_wp2_with fail
          go_loop [9, 10] (fun want ct => ∃ i : Nat, i ≤ k + 1 - pos ∧ want = .int .i64 (cnt T pos L i) ∧ ct = .int .i64 ((pos + i : Nat) : Int)) (fun _ ct => k + 1 - (intOf ct).toNat)
          case atStart => exact ⟨0, Nat.zero_le _, rfl, rfl⟩
          case round =>
            obtain ⟨i, hi, rfl, rfl⟩ := hrel
            by_cases hil : pos + i ≤ k
            · obtain ⟨blk, off, rfl, hcell⟩ := HR.out.at' HBr.out (k := pos + i) (by omega)
              have HE : Kept (cnt T pos L (i + 1) = if T.getD (pos + i) 0 = 10 then inc (cnt T pos L i) else cnt T pos L i) := ⟨rfl⟩
              generalize T.getD (pos + i) 0 = x at hcell HE
              have hle : ((pos + i : Nat) : Int) ≤ (k : Int) := by omega
              have hlt9 : ((pos + i : Nat) : Int) < (T.length : Int) := by omega
              by_cases hx : x = 10
              · subst hx
                go_wp2_with fail
                go_round
                case rel => exact ⟨i + 1, by omega, by rw [HE.out, if_pos rfl]; rfl, by go_num⟩
                case measure => simp [intOf]; omega
              · have hx' : (x == 10) = false := beq_eq_false_iff_ne.2 hx
                have HX : Kept (¬ x = 10) := ⟨hx⟩
                clear hx
                go_wp2_with fail
                go_round
                case rel => exact ⟨i + 1, by omega, by rw [HE.out, if_neg HX.out], by go_num⟩
                case measure => simp [intOf]; omega
            · obtain rfl : i = k + 1 - pos := by omega
              have hgt : (k : Int) < ((pos + (k + 1 - pos) : Nat) : Int) := by omega
              obtain ⟨x, hx⟩ : ∃ x, T.getD k 0 = x := ⟨_, rfl⟩
              have hxb : 0 ≤ x ∧ x ≤ 255 := by
                rw [← hx]; simp only [List.getD, List.getElem?_eq_getElem hk2, Option.getD_some]; exact HY.out _ (List.getElem_mem _)
              obtain ⟨hx0, hx1⟩ := hxb
              have HX : Kept (T.getD k 0 = x) := ⟨hx⟩
              rw [hx] at HC
              clear hx
              go_wp2_with fail
              refine (zzNext_val a' (T.drop pos) (T.drop (k + 1)) _ cap' L _ _ wr (by rw [List.length_drop]) HRow.out.1 (by rw [List.length_drop]; exact HRow.out.2) (by rw [List.length_drop]; omega) (fun x hx => HY.out x (List.mem_of_mem_drop hx)) HC.out HRr.out HL.out).mono ?_
              rintro e w3 ⟨a2, cap2, hout⟩
              obtain rfl := hout.ret
              have HO3 : Kept (ByteRow w3 wr.heap.size a2 (T.drop (k + 1)) ∧ (T.drop (k + 1)).length ≤ cap2 ∧ Below wr.heap.size wr w3) := ⟨⟨hout.row, hout.len, hout.below⟩⟩
              clear hout
              have HB3 : Kept (Below w.heap.size w w3) := ⟨HBr.out.trans (HO3.out.2.2.mono HBr.out.size)⟩
              obtain ⟨blk, off, rfl, hcell⟩ := HR.out.at' HB3.out hk2
              rw [HX.out] at hcell
              have hi9 : (k : Int) < (T.length : Int) := by omega
              have HB4 : ∀ q, Kept (Below (w.heap.size + 1) wS (w3.drewN q)) := fun q => ⟨below_drewN (HBw.out.trans (HO3.out.2.2.mono (Nat.le_trans HN1.out HBw.out.size))) q⟩
              have HR4 : ∀ q, Kept (ByteRow (w3.drewN q) (w3.drewN q).heap.size a2 (T.drop (k + 1)) ∧ T.length - (k + 1) ≤ cap2) := fun q =>
                ⟨⟨(HO3.out.1.below (Below.refl _ _) HO3.out.2.2.size).drewN q, by have := HO3.out.2.1; rw [List.length_drop] at this; exact this⟩⟩
              have HRt : Kept (ByteRow w3 w.heap.size (some ⟨blk, off, none⟩) T) := ⟨HR.out.below HB3.out (Nat.le_refl _)⟩
              by_cases hcap : cap = k + 1
              · subst hcap
                have hn0 : T.length - (k + 1) = 0 := by omega
                go_wp2_with fail
                refine (same_val a2 _ _ _ (T.drop (k + 1)) (T.drop (k + 1)) cap2 _ w3 w3.heap.size (by have h9 := List.length_drop (i := k + 1) (l := T); omega) (by have h9 := List.length_drop (i := k + 1) (l := T); omega) (HO3.out.1.below (Below.refl _ _) HO3.out.2.2.size) (.inl (List.drop_eq_nil_of_le (by omega))) (by rw [List.length_drop]; omega) rfl).mono ?_
                rintro e w4 ⟨rfl, q, rfl⟩
                go_wp2_with fail
                go_roundw
                case rel => exact ⟨j + 1, k + 1, cnt T pos L (k + 1 - pos), a2, cap2, by omega, by rw [hn0], rfl, rfl, congrArg (Value.int .i64) (by omega), by go_num, by omega, HSd, HR4 q, HB4 q⟩
                case measure => simp [intOf]; omega
              · have HRd : Kept (ByteRow w3 w3.heap.size (some ⟨blk, off + (k + 1), none⟩) (T.drop (k + 1))) := ⟨(HRt.out.below (Below.refl _ _) HB3.out.size).drop (k + 1)⟩
                go_wp2_with fail
                refine (same_val a2 _ _ _ (T.drop (k + 1)) (T.drop (k + 1)) cap2 _ w3 w3.heap.size (by have h9 := List.length_drop (i := k + 1) (l := T); omega) (by have h9 := List.length_drop (i := k + 1) (l := T); omega) (HO3.out.1.below (Below.refl _ _) HO3.out.2.2.size) HRd.out (by rw [List.length_drop]; omega) rfl).mono ?_
                rintro e w4 ⟨rfl, q, rfl⟩
                go_wp2_with fail
                go_roundw
                case rel => exact ⟨j + 1, k + 1, cnt T pos L (k + 1 - pos), a2, cap2, by omega, rfl, rfl, rfl, congrArg (Value.int .i64) (by omega), by go_num, by omega, HSd, HR4 q, HB4 q⟩
                case measure => simp [intOf]; omega
        · obtain rfl := last_fact T S j pos HD.out (by omega) hpos
          have HBr : Kept (Below w.heap.size w wr) := ⟨HBS.out.trans (HBw.out.mono (Nat.le_succ _))⟩
          have hsub : T.length - T.length = 0 := by omega
          rw [hsub]
          clear hsub HRow HBw HD HSC HBS HN1
          go_wp2_with fail
          go_loop [9, 10] (fun want ct => want = .int .i64 L ∧ ct = .int .i64 (T.length : Int)) (fun _ _ => 0)
          case atStart => exact ⟨rfl, rfl⟩
          case round =>
            obtain ⟨rfl, rfl⟩ := hrel
            go_wp2_with fail
            go_loopw [7, 8, 16] (fun rest ln n wr => ∃ (i : Nat) (a' : Option Addr) (cap' : Nat), i ≤ 2 ∧ rest = .slice a' 0 cap' ∧ ln = .int .i64 L ∧ n = .int .i64 i ∧ Kept (Below w.heap.size w wr)) (fun _ _ n _ => 2 - (intOf n).toNat)
            case atStart => exact ⟨0, _, _, by omega, rfl, rfl, rfl, HBr⟩
            case round =>
              obtain ⟨i, a3, cap3, hi, rfl, rfl, rfl, HB3⟩ := hrel
              clear HBr
              by_cases hi2 : i < 2
              · go_wp2_with fail
                refine (zzNext_val a3 [] [] 0 cap3 L (-1) L wr rfl (.inl rfl) (by simp) (by simp) (fun x hx => by simp at hx) rfl rfl rfl).mono ?_
                rintro e w3 ⟨a2, cap2, hout⟩
                obtain rfl := hout.ret
                have HB4 : Kept (Below w.heap.size w w3) := ⟨HB3.out.trans (hout.below.mono HB3.out.size)⟩
                clear hout
                go_wp2_with fail
                go_roundw
                case rel => exact ⟨i + 1, a2, cap2, by omega, rfl, rfl, by go_num, HB4⟩
                case measure => simp [intOf]; omega
              · go_wp2_with fail
                go_ret
                exact ⟨rfl, HB3.out⟩
end Cfg
end Go.Proofs.Qxb6617867a
