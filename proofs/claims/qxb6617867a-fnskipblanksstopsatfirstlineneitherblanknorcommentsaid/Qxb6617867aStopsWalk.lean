import Derived.Test.Qxb6617867aLooksParts
namespace Go.Proofs.Qxb6617867a
open Go.RowKit
namespace Cfg

/-! ### the plain law -/

/-- blank space inside a line -/
def blk (c : Int) : Bool := decide (c = 32 ∨ c = 9 ∨ c = 13)

/-- the line at place j: the starting line and the line feeds before j -/
def lns (T : List Int) (L : Int) : Nat → Int
  | 0 => L
  | j + 1 => if T.getD j 0 = 10 then inc (lns T L j) else lns T L j

theorem drop_at (T : List Int) (p : Nat) (hp : p < T.length) : T.drop p = T.getD p 0 :: T.drop (p + 1) := by
  rw [List.drop_eq_getElem_cons hp]
  simp [List.getD, List.getElem?_eq_getElem hp]

theorem lns_flat (T : List Int) (L : Int) (s : Nat) : ∀ d, (∀ i, s ≤ i → i < s + d → T.getD i 0 ≠ 10) → lns T L (s + d) = lns T L s
  | 0, _ => rfl
  | d + 1, h => by
    show (if T.getD (s + d) 0 = 10 then inc (lns T L (s + d)) else lns T L (s + d)) = _
    rw [if_neg (h (s + d) (by omega) (by omega))]
    exact lns_flat T L s d (fun i h1 h2 => h i h1 (by omega))

theorem sk_over_blank (T : List Int) (l : Int) (s : Nat) : ∀ d, s + d ≤ T.length → (∀ i, s ≤ i → i < s + d → blk (T.getD i 0) = true) → sk false (T.drop s) l = sk false (T.drop (s + d)) l
  | 0, _, _ => rfl
  | d + 1, hd, h => by
    rw [sk_over_blank T l s d (by omega) (fun i h1 h2 => h i h1 (by omega)), drop_at T (s + d) (by omega)]
    have hb := h (s + d) (by omega) (by omega)
    simp only [blk, decide_eq_true_eq] at hb
    simp only [sk]
    rw [if_neg (by omega), if_pos (.inr hb)]
    rfl

theorem sk_over_comment (T : List Int) (l : Int) (s : Nat) : ∀ d, s + d ≤ T.length → (∀ i, s ≤ i → i < s + d → T.getD i 0 ≠ 10) → sk true (T.drop s) l = sk true (T.drop (s + d)) l
  | 0, _, _ => rfl
  | d + 1, hd, h => by
    rw [sk_over_comment T l s d (by omega) (fun i h1 h2 => h i h1 (by omega)), drop_at T (s + d) (by omega)]
    simp only [sk]
    rw [if_neg (h (s + d) (by omega) (by omega)), if_pos (.inl trivial)]
    rfl

theorem blk_no10 {c : Int} (h : blk c = true) : c ≠ 10 := by
  simp only [blk, decide_eq_true_eq] at h; omega

/-- at the line's end -/
theorem sk_line_end (T : List Int) (L : Int) (cm : Bool) (e : Nat) (hex : e = T.length ∨ (e < T.length ∧ T.getD e 0 = 10)) : sk cm (T.drop e) (lns T L e) = sk false (T.drop (e + 1)) (lns T L (e + 1)) := by
  rcases hex with rfl | ⟨h1, h2⟩
  · have h0 : T.getD T.length 0 = 0 := by simp [List.getD]
    have e1 : lns T L (T.length + 1) = lns T L T.length := by
      show (if T.getD T.length 0 = 10 then _ else _) = _
      rw [h0, if_neg (by decide)]
    rw [e1, List.drop_eq_nil_of_le (Nat.le_refl _), List.drop_eq_nil_of_le (Nat.le_succ _)]
    cases cm <;> rfl
  · have e1 : lns T L (e + 1) = inc (lns T L e) := by
      show (if T.getD e 0 = 10 then _ else _) = _
      rw [if_pos h2]
    rw [drop_at T e h1, e1, h2]
    cases cm <;> simp [sk]

theorem line_blank (T : List Int) (L : Int) (s k : Nat) (h1 : s ≤ k) (h2 : k ≤ T.length) (hb : ∀ i, s ≤ i → i < k → blk (T.getD i 0) = true) (hex : k = T.length ∨ (k < T.length ∧ T.getD k 0 = 10)) :
    sk false (T.drop s) (lns T L s) = sk false (T.drop (k + 1)) (lns T L (k + 1)) := by
  obtain ⟨d, rfl⟩ := Nat.exists_eq_add_of_le h1
  rw [sk_over_blank T _ s d h2 hb, ← lns_flat T L s d (fun i h3 h4 => blk_no10 (hb i h3 h4))]
  exact sk_line_end T L false (s + d) hex

theorem line_mark (T : List Int) (L : Int) (s k e : Nat) (h1 : s ≤ k) (h2 : k < e) (h3 : e ≤ T.length) (hnl : ∀ i, s ≤ i → i < e → T.getD i 0 ≠ 10) (hb : ∀ i, s ≤ i → i < k → blk (T.getD i 0) = true)
    (hm : T.getD k 0 = 35 ∨ T.getD k 0 = 59) (hex : e = T.length ∨ (e < T.length ∧ T.getD e 0 = 10)) :
    sk false (T.drop s) (lns T L s) = sk false (T.drop (e + 1)) (lns T L (e + 1)) := by
  obtain ⟨d, rfl⟩ := Nat.exists_eq_add_of_le h1
  obtain ⟨f, rfl⟩ := Nat.exists_eq_add_of_le (show s + d + 1 ≤ e by omega)
  rw [sk_over_blank T _ s d (by omega) hb, drop_at T (s + d) (by omega)]
  have hb2 : ¬ (false = true ∨ T.getD (s + d) 0 = 32 ∨ T.getD (s + d) 0 = 9 ∨ T.getD (s + d) 0 = 13) := by simp only [Bool.false_eq_true, false_or]; omega
  simp only [sk]
  rw [if_neg (by omega), if_neg hb2, if_pos hm, sk_over_comment T _ (s + d + 1) f (by omega) (fun i h4 h5 => hnl i (by omega) h5)]
  have e1 : lns T L s = lns T L (s + d + 1 + f) := by
    rw [show s + d + 1 + f = s + (d + 1 + f) by omega]
    exact (lns_flat T L s (d + 1 + f) (fun i h4 h5 => hnl i h4 (by omega))).symm
  rw [e1]
  exact sk_line_end T L true (s + d + 1 + f) hex

theorem line_stop (T : List Int) (L : Int) (s k e : Nat) (h1 : s ≤ k) (h2 : k < e) (h3 : e ≤ T.length) (hnl : ∀ i, s ≤ i → i < e → T.getD i 0 ≠ 10) (hb : ∀ i, s ≤ i → i < k → blk (T.getD i 0) = true)
    (hn : blk (T.getD k 0) = false) (h35 : T.getD k 0 ≠ 35) (h59 : T.getD k 0 ≠ 59) :
    sk false (T.drop s) (lns T L s) = (T.getD k 0, T.drop (k + 1), lns T L k) := by
  obtain ⟨d, rfl⟩ := Nat.exists_eq_add_of_le h1
  rw [sk_over_blank T _ s d (by omega) hb, drop_at T (s + d) (by omega), lns_flat T L s d (fun i h4 h5 => hnl i h4 (by omega))]
  have h10 := hnl (s + d) (by omega) h2
  simp only [blk, decide_eq_false_iff_not] at hn
  have hb2 : ¬ (false = true ∨ T.getD (s + d) 0 = 32 ∨ T.getD (s + d) 0 = 9 ∨ T.getD (s + d) 0 = 13) := by simp only [Bool.false_eq_true, false_or]; exact hn
  simp only [sk]
  rw [if_neg h10, if_neg hb2, if_neg (show ¬ (T.getD (s + d) 0 = 35 ∨ T.getD (s + d) 0 = 59) by omega)]

/-- where the first loop stands: no line found yet, all before s skipped; or the place is found -/
def StopRel (T : List Int) (line : Int) (av sv : Value) : Prop :=
  (∃ s : Nat, av = .int .i64 (-1) ∧ sv = .int .i64 s ∧ s ≤ T.length + 1 ∧ Kept (sk false T line = sk false (T.drop s) (lns T line s))) ∨
  (∃ k s : Nat, av = .int .i64 k ∧ sv = .int .i64 s ∧ k < T.length ∧ s ≤ T.length + 1 ∧ Kept (sk false T line = (T.getD k 0, T.drop (k + 1), lns T line k)))

theorem StopRel.go {T : List Int} {line : Int} {e : Nat} (h : e ≤ T.length) (hs : Kept (sk false T line = sk false (T.drop (e + 1)) (lns T line (e + 1)))) : StopRel T line (.int .i64 (-1)) (.int .i64 ((e : Int) + 1)) :=
  .inl ⟨e + 1, rfl, by go_num, by omega, hs⟩

theorem StopRel.hit {T : List Int} {line : Int} {k e : Nat} (h : e ≤ T.length) (hk : k < T.length) (hs : Kept (sk false T line = (T.getD k 0, T.drop (k + 1), lns T line k))) : StopRel T line (.int .i64 (k : Int)) (.int .i64 ((e : Int) + 1)) :=
  .inr ⟨k, e + 1, rfl, by go_num, hk, by omega, hs⟩

set_option maxHeartbeats 400000 in
theorem blank_any (c : Int) (w : World) : Calls Try.prog 10 #[.int .u8 c] w fun e w' => e = .returned (.bool (blk c)) ∧ w' = w := by
  by_cases h32 : c = 32
  · subst h32
    go_enter Try.func10, Try.ntmps10
    go_wp2
    go_ret
    exact ⟨rfl, rfl⟩
  by_cases h9 : c = 9
  · subst h9
    go_enter Try.func10, Try.ntmps10
    go_wp2
    go_ret
    exact ⟨rfl, rfl⟩
  by_cases h13 : c = 13
  · subst h13
    go_enter Try.func10, Try.ntmps10
    go_wp2
    go_ret
    exact ⟨rfl, rfl⟩
  have hb : blk c = false := decide_eq_false (by omega)
  have b1 : (c == 32) = false := beq_eq_false_iff_ne.2 h32
  have b2 : (c == 9) = false := beq_eq_false_iff_ne.2 h9
  have b3 : (c == 13) = false := beq_eq_false_iff_ne.2 h13
  rw [hb]
  clear h32 h9 h13 hb
  go_enter Try.func10, Try.ntmps10
  go_wp2
  go_ret
  exact ⟨rfl, rfl⟩

theorem blank_val (c : Int) (w : World) (b : Bool) (h : blk c = b) : Calls Try.prog 10 #[.int .u8 c] w fun e w' => e = .returned (.bool b) ∧ w = w' := by
  rw [← h]; exact (blank_any c w).mono fun e w' ⟨h1, h2⟩ => ⟨h1, h2.symm⟩

theorem spent (T : List Int) (L : Int) (s : Nat) (h1 : T.length ≤ s) (h2 : s ≤ T.length + 1) : sk false (T.drop s) (lns T L s) = (-1, [], lns T L T.length) := by
  rw [List.drop_eq_nil_of_le h1]
  have h0 : T.getD T.length 0 = 0 := by simp [List.getD]
  have e1 : lns T L (T.length + 1) = lns T L T.length := by
    show (if T.getD T.length 0 = 10 then _ else _) = _
    rw [h0, if_neg (by decide)]
  have : lns T L s = lns T L T.length := by
    rcases Nat.lt_or_eq_of_le h2 with h | h
    · rw [show s = T.length by omega]
    · rw [h, e1]
  rw [this]
  rfl

theorem ByteRow.drop' {w : World} {B blk off : Nat} {xs : List Int} (h : ByteRow w B (some ⟨blk, off, none⟩) xs) (k : Nat) : ByteRow w B (some ⟨blk, off + k, none⟩) (xs.drop k) := by
  rcases h with rfl | ⟨blk', off', he, hb, hc⟩
  · exact .inl (by simp)
  · simp only [Option.some.injEq, Addr.mk.injEq, and_true] at he
    obtain ⟨rfl, rfl⟩ := he
    refine .inr ⟨_, _, rfl, hb, fun i hi => ?_⟩
    rw [List.length_drop] at hi
    have h1 := hc (k + i) (by omega)
    rw [← Nat.add_assoc] at h1
    rw [h1]
    simp only [List.getD]
    rw [List.getElem?_drop]

set_option maxRecDepth 100000 in
set_option maxHeartbeats 4000000 in
theorem stops_some (y : Addr) (cap : Nat) (T : List Int) (line : Int) (w : World) (hr : ByteRow w w.heap.size (some y) T) (hz : T.length ≤ 65536) (hby : ∀ x ∈ T, 0 ≤ x ∧ x ≤ 255) :
    Calls Try.prog 4 #[.slice (some y) T.length cap, .int .i64 line] w fun e w' => e = .returned (.bool true) ∧ Below w.heap.size w w' := by
  obtain ⟨wA, wB, hmk, hcp, hbw, hrB, hszB⟩ := copy_run (some y) cap T w hr (by omega)
  have HRB : Kept (ByteRow wB wB.heap.size (some ⟨w.heap.size, 0, none⟩) T) := ⟨hrB⟩
  have HBW : Kept (Below w.heap.size w wB) := ⟨hbw⟩
  have HYB : Kept (∀ x ∈ T, 0 ≤ x ∧ x ≤ 255) := ⟨hby⟩
  have HCELL : Kept (∀ k, k < T.length → wB.cell? ⟨w.heap.size, k, none⟩ = some (.int .u8 (T.getD k 0)) ∧ 0 ≤ T.getD k 0 ∧ T.getD k 0 ≤ 255) := ⟨fun k hk => by
    obtain ⟨blk9, off9, hab, h9⟩ := HRB.out.at hk
    simp only [Option.some.injEq, Addr.mk.injEq, and_true] at hab
    obtain ⟨rfl, rfl⟩ := hab
    rw [Nat.zero_add] at h9
    refine ⟨h9, ?_⟩
    simp only [List.getD, List.getElem?_eq_getElem hk, Option.getD_some]
    exact HYB.out _ (List.getElem_mem _)⟩
  clear hr hbw hrB hszB hby
  go_enter Try.func4, Try.ntmps4
  go_wp2_with (first | (go_at_call 9; go_in) | fail)
  clear hmk hcp
  go_loop [6, 7] (fun av sv => StopRel T line av sv) (fun _ sv => T.length + 1 - (intOf sv).toNat)
  case atStart => exact .inl ⟨0, rfl, rfl, Nat.zero_le _, ⟨rfl⟩⟩
  case round =>
    rcases hrel with ⟨s, rfl, rfl, hsn, HS⟩ | ⟨k, s, rfl, rfl, hkn, hsn, HF⟩
    · by_cases hs : s < T.length
      · go_wp2_with fail
        go_loop [8] (fun ev => ∃ e : Nat, s ≤ e ∧ e ≤ T.length ∧ ev = .int .i64 e ∧ Kept (∀ i, s ≤ i → i < e → T.getD i 0 ≠ 10)) (fun ev => T.length - (intOf ev).toNat)
        case atStart => exact ⟨s, Nat.le_refl _, by omega, rfl, ⟨fun i h1 h2 => by omega⟩⟩
        case round =>
          obtain ⟨e, hse, hen, rfl, HNL⟩ := hrel
          by_cases he : e < T.length
          · have he' : (e : Int) < (T.length : Int) := by omega
            obtain ⟨hcell, _⟩ := HCELL.out e he
            obtain ⟨x, hxe⟩ : ∃ x, T.getD e 0 = x := ⟨_, rfl⟩
            have HXE : Kept (T.getD e 0 = x) := ⟨hxe⟩
            rw [hxe] at hcell
            clear hxe
            by_cases hx : x = 10
            · subst hx
              have HEX : Kept (e = T.length ∨ (e < T.length ∧ T.getD e 0 = 10)) := ⟨.inr ⟨he, HXE.out⟩⟩
              go_wp2_with fail
              go_loop [9] (fun kv => ∃ k : Nat, s ≤ k ∧ k ≤ e ∧ kv = .int .i64 k ∧ Kept (∀ i, s ≤ i → i < k → blk (T.getD i 0) = true)) (fun kv => e - (intOf kv).toNat)
              case atStart => exact ⟨s, Nat.le_refl _, hse, rfl, ⟨fun i h1 h2 => by omega⟩⟩
              case round =>
                obtain ⟨k, hsk, hke, rfl, HBL⟩ := hrel
                by_cases hk : k < e
                · have hkn : k < T.length := by omega
                  have hkn' : (k : Int) < (T.length : Int) := by omega
                  obtain ⟨hcell, hx⟩ := HCELL.out k hkn
                  obtain ⟨x, hxe⟩ : ∃ x, T.getD k 0 = x := ⟨_, rfl⟩
                  have HX : Kept (T.getD k 0 = x) := ⟨hxe⟩
                  rw [hxe] at hcell hx
                  obtain ⟨hx0, hx1⟩ := hx
                  clear hxe
                  cases hb : blk x with
                  | true =>
                    have HB : Kept (blk x = true) := ⟨hb⟩
                    have HBL2 : Kept (∀ i, s ≤ i → i < k + 1 → blk (T.getD i 0) = true) := ⟨fun i h1 h2 => by
                      rcases Nat.lt_or_eq_of_le (Nat.le_of_lt_succ h2) with h3 | h3
                      · exact HBL.out i h1 h3
                      · rw [h3, HX.out]; exact HB.out⟩
                    clear hb
                    go_wp2_with (first | (go_at_call 10; refine (blank_val _ _ true HB.out).mono ?_; rintro e9 w9 ⟨rfl, rfl⟩) | fail)
                    go_round
                    case rel => exact ⟨k + 1, by omega, by omega, by go_num, HBL2⟩
                    case measure => simp [intOf]; omega
                  | false =>
                    have HB : Kept (blk x = false) := ⟨hb⟩
                    clear hb
                    by_cases x35 : x = 35
                    · subst x35
                      have HS2 : Kept (sk false T line = sk false (T.drop (e + 1)) (lns T line (e + 1))) := ⟨by rw [HS.out]; exact line_mark T line s k e hsk hk hen HNL.out HBL.out (.inl HX.out) HEX.out⟩
                      go_wp2_with (first | (go_at_call 10; refine (blank_val _ _ false HB.out).mono ?_; rintro e9 w9 ⟨rfl, rfl⟩) | fail)
                      go_round
                      case rel => first | exact StopRel.go hen HS2 | exact ⟨trivial, by (repeat apply Exists.intro); exact ⟨StopRel.go hen HS2, rfl⟩⟩ | ((repeat apply Exists.intro); exact ⟨StopRel.go hen HS2, rfl⟩)
                      case measure => simp [intOf]; omega
                    by_cases x59 : x = 59
                    · subst x59
                      have HS2 : Kept (sk false T line = sk false (T.drop (e + 1)) (lns T line (e + 1))) := ⟨by rw [HS.out]; exact line_mark T line s k e hsk hk hen HNL.out HBL.out (.inr HX.out) HEX.out⟩
                      clear x35
                      go_wp2_with (first | (go_at_call 10; refine (blank_val _ _ false HB.out).mono ?_; rintro e9 w9 ⟨rfl, rfl⟩) | fail)
                      go_round
                      case rel => first | exact StopRel.go hen HS2 | exact ⟨trivial, by (repeat apply Exists.intro); exact ⟨StopRel.go hen HS2, rfl⟩⟩ | ((repeat apply Exists.intro); exact ⟨StopRel.go hen HS2, rfl⟩)
                      case measure => simp [intOf]; omega
                    · have HS2 : Kept (sk false T line = (T.getD k 0, T.drop (k + 1), lns T line k)) := ⟨by rw [HS.out]; exact line_stop T line s k e hsk hk hen HNL.out HBL.out (by rw [HX.out]; exact HB.out) (by rw [HX.out]; exact x35) (by rw [HX.out]; exact x59)⟩
                      have b35 : (x != 35) = true := by rw [bne_iff_ne]; exact x35
                      have b59 : (x != 59) = true := by rw [bne_iff_ne]; exact x59
                      clear x35 x59
                      go_wp2_with (first | (go_at_call 10; refine (blank_val _ _ false HB.out).mono ?_; rintro e9 w9 ⟨rfl, rfl⟩) | fail)
                      go_round
                      case rel => first | exact StopRel.hit hen hkn HS2 | exact ⟨trivial, by (repeat apply Exists.intro); exact ⟨StopRel.hit hen hkn HS2, rfl⟩⟩ | ((repeat apply Exists.intro); exact ⟨StopRel.hit hen hkn HS2, rfl⟩)
                      case measure => simp [intOf]; omega
                · obtain rfl : k = e := by omega
                  have HS2 : Kept (sk false T line = sk false (T.drop (k + 1)) (lns T line (k + 1))) := ⟨by rw [HS.out]; exact line_blank T line s k hsk hen HBL.out HEX.out⟩
                  go_wp2_with fail
                  go_round
                  case rel => first | exact StopRel.go hen HS2 | ((repeat apply Exists.intro); exact ⟨StopRel.go hen HS2, rfl⟩)
                  case measure => simp [intOf]; omega
            · have hx' : (x != 10) = true := by rw [bne_iff_ne]; exact hx
              have HNL2 : Kept (∀ i, s ≤ i → i < e + 1 → T.getD i 0 ≠ 10) := ⟨fun i h1 h2 => by
                rcases Nat.lt_or_eq_of_le (Nat.le_of_lt_succ h2) with h3 | h3
                · exact HNL.out i h1 h3
                · rw [h3, HXE.out]; exact hx⟩
              clear hx
              go_wp2_with fail
              go_round
              case rel => exact ⟨e + 1, by omega, by omega, by go_num, HNL2⟩
              case measure => simp [intOf]; omega
          · have HEX : Kept (e = T.length ∨ (e < T.length ∧ T.getD e 0 = 10)) := ⟨.inl (by omega)⟩
            go_wp2_with fail
            go_loop [9] (fun kv => ∃ k : Nat, s ≤ k ∧ k ≤ e ∧ kv = .int .i64 k ∧ Kept (∀ i, s ≤ i → i < k → blk (T.getD i 0) = true)) (fun kv => e - (intOf kv).toNat)
            case atStart => exact ⟨s, Nat.le_refl _, hse, rfl, ⟨fun i h1 h2 => by omega⟩⟩
            case round =>
              obtain ⟨k, hsk, hke, rfl, HBL⟩ := hrel
              by_cases hk : k < e
              · have hkn : k < T.length := by omega
                have hkn' : (k : Int) < (T.length : Int) := by omega
                obtain ⟨hcell, hx⟩ := HCELL.out k hkn
                obtain ⟨x, hxe⟩ : ∃ x, T.getD k 0 = x := ⟨_, rfl⟩
                have HX : Kept (T.getD k 0 = x) := ⟨hxe⟩
                rw [hxe] at hcell hx
                obtain ⟨hx0, hx1⟩ := hx
                clear hxe
                cases hb : blk x with
                | true =>
                  have HB : Kept (blk x = true) := ⟨hb⟩
                  have HBL2 : Kept (∀ i, s ≤ i → i < k + 1 → blk (T.getD i 0) = true) := ⟨fun i h1 h2 => by
                    rcases Nat.lt_or_eq_of_le (Nat.le_of_lt_succ h2) with h3 | h3
                    · exact HBL.out i h1 h3
                    · rw [h3, HX.out]; exact HB.out⟩
                  clear hb
                  go_wp2_with (first | (go_at_call 10; refine (blank_val _ _ true HB.out).mono ?_; rintro e9 w9 ⟨rfl, rfl⟩) | fail)
                  go_round
                  case rel => exact ⟨k + 1, by omega, by omega, by go_num, HBL2⟩
                  case measure => simp [intOf]; omega
                | false =>
                  have HB : Kept (blk x = false) := ⟨hb⟩
                  clear hb
                  by_cases x35 : x = 35
                  · subst x35
                    have HS2 : Kept (sk false T line = sk false (T.drop (e + 1)) (lns T line (e + 1))) := ⟨by rw [HS.out]; exact line_mark T line s k e hsk hk hen HNL.out HBL.out (.inl HX.out) HEX.out⟩
                    go_wp2_with (first | (go_at_call 10; refine (blank_val _ _ false HB.out).mono ?_; rintro e9 w9 ⟨rfl, rfl⟩) | fail)
                    go_round
                    case rel => first | exact StopRel.go hen HS2 | exact ⟨trivial, by (repeat apply Exists.intro); exact ⟨StopRel.go hen HS2, rfl⟩⟩ | ((repeat apply Exists.intro); exact ⟨StopRel.go hen HS2, rfl⟩)
                    case measure => simp [intOf]; omega
                  by_cases x59 : x = 59
                  · subst x59
                    have HS2 : Kept (sk false T line = sk false (T.drop (e + 1)) (lns T line (e + 1))) := ⟨by rw [HS.out]; exact line_mark T line s k e hsk hk hen HNL.out HBL.out (.inr HX.out) HEX.out⟩
                    clear x35
                    go_wp2_with (first | (go_at_call 10; refine (blank_val _ _ false HB.out).mono ?_; rintro e9 w9 ⟨rfl, rfl⟩) | fail)
                    go_round
                    case rel => first | exact StopRel.go hen HS2 | exact ⟨trivial, by (repeat apply Exists.intro); exact ⟨StopRel.go hen HS2, rfl⟩⟩ | ((repeat apply Exists.intro); exact ⟨StopRel.go hen HS2, rfl⟩)
                    case measure => simp [intOf]; omega
                  · have HS2 : Kept (sk false T line = (T.getD k 0, T.drop (k + 1), lns T line k)) := ⟨by rw [HS.out]; exact line_stop T line s k e hsk hk hen HNL.out HBL.out (by rw [HX.out]; exact HB.out) (by rw [HX.out]; exact x35) (by rw [HX.out]; exact x59)⟩
                    have b35 : (x != 35) = true := by rw [bne_iff_ne]; exact x35
                    have b59 : (x != 59) = true := by rw [bne_iff_ne]; exact x59
                    clear x35 x59
                    go_wp2_with (first | (go_at_call 10; refine (blank_val _ _ false HB.out).mono ?_; rintro e9 w9 ⟨rfl, rfl⟩) | fail)
                    go_round
                    case rel => first | exact StopRel.hit hen hkn HS2 | exact ⟨trivial, by (repeat apply Exists.intro); exact ⟨StopRel.hit hen hkn HS2, rfl⟩⟩ | ((repeat apply Exists.intro); exact ⟨StopRel.hit hen hkn HS2, rfl⟩)
                    case measure => simp [intOf]; omega
              · obtain rfl : k = e := by omega
                have HS2 : Kept (sk false T line = sk false (T.drop (k + 1)) (lns T line (k + 1))) := ⟨by rw [HS.out]; exact line_blank T line s k hsk hen HBL.out HEX.out⟩
                go_wp2_with fail
                go_round
                case rel => first | exact StopRel.go hen HS2 | ((repeat apply Exists.intro); exact ⟨StopRel.go hen HS2, rfl⟩)
                case measure => simp [intOf]; omega
      · have HF : Kept (sk false T line = (-1, [], lns T line T.length)) := ⟨by rw [HS.out]; exact spent T line s (by omega) hsn⟩
        clear HS
        go_wp2_with fail
        go_loop [11, 12] (fun wv iv => ∃ i : Nat, i ≤ T.length ∧ wv = .int .i64 (lns T line i) ∧ iv = .int .i64 i) (fun _ iv => T.length - (intOf iv).toNat)
        case atStart => exact ⟨0, Nat.zero_le _, rfl, rfl⟩
        case round =>
          obtain ⟨i, hi, rfl, rfl⟩ := hrel
          by_cases hil : i < T.length
          · have hin : i < T.length := by omega
            have hin' : (i : Int) < (T.length : Int) := by omega
            obtain ⟨hcell, _⟩ := HCELL.out i hin
            have HE : Kept (lns T line (i + 1) = if T.getD i 0 = 10 then inc (lns T line i) else lns T line i) := ⟨rfl⟩
            generalize T.getD i 0 = x at hcell HE
            by_cases hx : x = 10
            · subst hx
              go_wp2_with fail
              go_round
              case rel => exact ⟨i + 1, by omega, by rw [HE.out, if_pos rfl]; rfl, by go_num⟩
              case measure => simp [intOf]; omega
            · have hx' : (x == 10) = false := beq_eq_false_iff_ne.2 hx
              have HXX : Kept (¬ x = 10) := ⟨hx⟩
              clear hx
              go_wp2_with fail
              go_round
              case rel => exact ⟨i + 1, by omega, by rw [HE.out, if_neg HXX.out], by go_num⟩
              case measure => simp [intOf]; omega
          · obtain rfl : T.length = i := by omega
            go_wp2_with fail
            refine (zzSkip_val _ T [] _ _ line (-1) (lns T line T.length) wB rfl HRB.out (Nat.le_refl _) (by omega) HYB.out HF.out).mono ?_
            rintro e9 w9 ⟨a2, cap2, hout⟩
            obtain rfl := hout.ret
            have HB9 : Kept (Below w.heap.size w w9) := ⟨HBW.out.trans (hout.below.mono HBW.out.size)⟩
            clear hout
            go_wp2_with fail
            go_ret
            exact ⟨rfl, HB9.out⟩
    · by_cases hs : s < T.length
      · have hs' : (s : Int) < (T.length : Int) := by omega
        go_wp2_with fail
        go_loop [11, 12] (fun wv iv => ∃ i : Nat, i ≤ k ∧ wv = .int .i64 (lns T line i) ∧ iv = .int .i64 i) (fun _ iv => k - (intOf iv).toNat)
        case atStart => exact ⟨0, Nat.zero_le _, rfl, rfl⟩
        case round =>
          obtain ⟨i, hi, rfl, rfl⟩ := hrel
          by_cases hil : i < k
          · have hin : i < T.length := by omega
            have hin' : (i : Int) < (T.length : Int) := by omega
            obtain ⟨hcell, _⟩ := HCELL.out i hin
            have HE : Kept (lns T line (i + 1) = if T.getD i 0 = 10 then inc (lns T line i) else lns T line i) := ⟨rfl⟩
            generalize T.getD i 0 = x at hcell HE
            by_cases hx : x = 10
            · subst hx
              go_wp2_with fail
              go_round
              case rel => exact ⟨i + 1, by omega, by rw [HE.out, if_pos rfl]; rfl, by go_num⟩
              case measure => simp [intOf]; omega
            · have hx' : (x == 10) = false := beq_eq_false_iff_ne.2 hx
              have HXX : Kept (¬ x = 10) := ⟨hx⟩
              clear hx
              go_wp2_with fail
              go_round
              case rel => exact ⟨i + 1, by omega, by rw [HE.out, if_neg HXX.out], by go_num⟩
              case measure => simp [intOf]; omega
          · obtain rfl : k = i := by omega
            obtain ⟨x, hx⟩ : ∃ x, T.getD k 0 = x := ⟨_, rfl⟩
            have HX : Kept (T.getD k 0 = x) := ⟨hx⟩
            obtain ⟨_, hxb⟩ := HCELL.out k hkn
            rw [hx] at hxb
            obtain ⟨hx0, hx1⟩ := hxb
            have HF2 : Kept (sk false T line = (x, T.drop (k + 1), lns T line k)) := ⟨by rw [← hx]; exact HF.out⟩
            clear hx HF
            go_wp2_with fail
            refine (zzSkip_val _ T (T.drop (k + 1)) _ _ line x (lns T line k) wB rfl HRB.out (Nat.le_refl _) (by omega) HYB.out HF2.out).mono ?_
            rintro e9 w9 ⟨a2, cap2, hout⟩
            obtain rfl := hout.ret
            have HB9 : Kept (Below w.heap.size w w9) := ⟨HBW.out.trans (hout.below.mono HBW.out.size)⟩
            have HR9 : Kept (ByteRow w9 w9.heap.size a2 (T.drop (k + 1))) := ⟨hout.row.below (Below.refl _ _) hout.below.size⟩
            have HT9 : Kept (ByteRow w9 w9.heap.size (some ⟨w.heap.size, 0, none⟩) T) := ⟨HRB.out.below hout.below hout.below.size⟩
            clear hout
            have hcell : w9.cell? ⟨w.heap.size, k, none⟩ = some (.int .u8 x) := by
              obtain ⟨blk9, off9, hab, h9⟩ := HT9.out.at hkn
              simp only [Option.some.injEq, Addr.mk.injEq, and_true] at hab
              obtain ⟨rfl, rfl⟩ := hab
              rw [Nat.zero_add, HX.out] at h9
              exact h9
            have hkn' : (k : Int) < (T.length : Int) := by omega
            by_cases hend : T.length = k + 1
            · have hte : T.drop (k + 1) = [] := List.drop_eq_nil_of_le (by omega)
              have HTE := Kept.mk hte
              have HEND := Kept.mk hend
              clear hte
              have hnot : ¬ (k + 1 < T.length) := by omega
              clear hend
              go_wp2_with fail
              all_goals
                refine (same_val _ _ _ _ (T.drop (k + 1)) (T.drop (k + 1)) _ _ w9 w9.heap.size (by have h9 := List.length_drop (i := k + 1) (l := T); have h8 := HEND.out; omega) (by have h9 := List.length_drop (i := k + 1) (l := T); have h8 := HEND.out; omega) HR9.out (.inl HTE.out) (by have h9 := List.length_drop (i := k + 1) (l := T); omega) rfl).mono ?_
                rintro e8 w8 ⟨rfl, q, rfl⟩
                go_wp2_with fail
                go_ret
                exact ⟨rfl, below_drewN HB9.out q⟩
            · have HTD : Kept (ByteRow w9 w9.heap.size (some ⟨w.heap.size, k + 1, none⟩) (T.drop (k + 1))) := ⟨by have h9 := HT9.out.drop' (k + 1); rw [Nat.zero_add] at h9; exact h9⟩
              go_wp2_with fail
              refine (same_val _ _ _ _ (T.drop (k + 1)) (T.drop (k + 1)) _ _ w9 w9.heap.size (by have h9 := List.length_drop (i := k + 1) (l := T); omega) (by have h9 := List.length_drop (i := k + 1) (l := T); omega) HR9.out HTD.out (by have h9 := List.length_drop (i := k + 1) (l := T); omega) rfl).mono ?_
              rintro e8 w8 ⟨rfl, q, rfl⟩
              go_wp2_with fail
              go_ret
              exact ⟨rfl, below_drewN HB9.out q⟩
      · have hs' : ¬ (s : Int) < (T.length : Int) := by omega
        go_wp2_with fail
        go_loop [11, 12] (fun wv iv => ∃ i : Nat, i ≤ k ∧ wv = .int .i64 (lns T line i) ∧ iv = .int .i64 i) (fun _ iv => k - (intOf iv).toNat)
        case atStart => exact ⟨0, Nat.zero_le _, rfl, rfl⟩
        case round =>
          obtain ⟨i, hi, rfl, rfl⟩ := hrel
          by_cases hil : i < k
          · have hin : i < T.length := by omega
            have hin' : (i : Int) < (T.length : Int) := by omega
            obtain ⟨hcell, _⟩ := HCELL.out i hin
            have HE : Kept (lns T line (i + 1) = if T.getD i 0 = 10 then inc (lns T line i) else lns T line i) := ⟨rfl⟩
            generalize T.getD i 0 = x at hcell HE
            by_cases hx : x = 10
            · subst hx
              go_wp2_with fail
              go_round
              case rel => exact ⟨i + 1, by omega, by rw [HE.out, if_pos rfl]; rfl, by go_num⟩
              case measure => simp [intOf]; omega
            · have hx' : (x == 10) = false := beq_eq_false_iff_ne.2 hx
              have HXX : Kept (¬ x = 10) := ⟨hx⟩
              clear hx
              go_wp2_with fail
              go_round
              case rel => exact ⟨i + 1, by omega, by rw [HE.out, if_neg HXX.out], by go_num⟩
              case measure => simp [intOf]; omega
          · obtain rfl : k = i := by omega
            obtain ⟨x, hx⟩ : ∃ x, T.getD k 0 = x := ⟨_, rfl⟩
            have HX : Kept (T.getD k 0 = x) := ⟨hx⟩
            obtain ⟨_, hxb⟩ := HCELL.out k hkn
            rw [hx] at hxb
            obtain ⟨hx0, hx1⟩ := hxb
            have HF2 : Kept (sk false T line = (x, T.drop (k + 1), lns T line k)) := ⟨by rw [← hx]; exact HF.out⟩
            clear hx HF
            go_wp2_with fail
            refine (zzSkip_val _ T (T.drop (k + 1)) _ _ line x (lns T line k) wB rfl HRB.out (Nat.le_refl _) (by omega) HYB.out HF2.out).mono ?_
            rintro e9 w9 ⟨a2, cap2, hout⟩
            obtain rfl := hout.ret
            have HB9 : Kept (Below w.heap.size w w9) := ⟨HBW.out.trans (hout.below.mono HBW.out.size)⟩
            have HR9 : Kept (ByteRow w9 w9.heap.size a2 (T.drop (k + 1))) := ⟨hout.row.below (Below.refl _ _) hout.below.size⟩
            have HT9 : Kept (ByteRow w9 w9.heap.size (some ⟨w.heap.size, 0, none⟩) T) := ⟨HRB.out.below hout.below hout.below.size⟩
            clear hout
            have hcell : w9.cell? ⟨w.heap.size, k, none⟩ = some (.int .u8 x) := by
              obtain ⟨blk9, off9, hab, h9⟩ := HT9.out.at hkn
              simp only [Option.some.injEq, Addr.mk.injEq, and_true] at hab
              obtain ⟨rfl, rfl⟩ := hab
              rw [Nat.zero_add, HX.out] at h9
              exact h9
            have hkn' : (k : Int) < (T.length : Int) := by omega
            by_cases hend : T.length = k + 1
            · have hte : T.drop (k + 1) = [] := List.drop_eq_nil_of_le (by omega)
              have HTE := Kept.mk hte
              have HEND := Kept.mk hend
              clear hte
              have hnot : ¬ (k + 1 < T.length) := by omega
              clear hend
              go_wp2_with fail
              all_goals
                refine (same_val _ _ _ _ (T.drop (k + 1)) (T.drop (k + 1)) _ _ w9 w9.heap.size (by have h9 := List.length_drop (i := k + 1) (l := T); have h8 := HEND.out; omega) (by have h9 := List.length_drop (i := k + 1) (l := T); have h8 := HEND.out; omega) HR9.out (.inl HTE.out) (by have h9 := List.length_drop (i := k + 1) (l := T); omega) rfl).mono ?_
                rintro e8 w8 ⟨rfl, q, rfl⟩
                go_wp2_with fail
                go_ret
                exact ⟨rfl, below_drewN HB9.out q⟩
            · have HTD : Kept (ByteRow w9 w9.heap.size (some ⟨w.heap.size, k + 1, none⟩) (T.drop (k + 1))) := ⟨by have h9 := HT9.out.drop' (k + 1); rw [Nat.zero_add] at h9; exact h9⟩
              go_wp2_with fail
              refine (same_val _ _ _ _ (T.drop (k + 1)) (T.drop (k + 1)) _ _ w9 w9.heap.size (by have h9 := List.length_drop (i := k + 1) (l := T); omega) (by have h9 := List.length_drop (i := k + 1) (l := T); omega) HR9.out HTD.out (by have h9 := List.length_drop (i := k + 1) (l := T); omega) rfl).mono ?_
              rintro e8 w8 ⟨rfl, q, rfl⟩
              go_wp2_with fail
              go_ret
              exact ⟨rfl, below_drewN HB9.out q⟩
end Cfg
end Go.Proofs.Qxb6617867a
