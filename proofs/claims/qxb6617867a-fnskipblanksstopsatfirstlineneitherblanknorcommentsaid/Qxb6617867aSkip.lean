import Derived.Test.Qxb6617867aZZNext
namespace Go.Proofs.Qxb6617867a
open Go.RowKit
namespace Cfg

/-- what skipBlanks reads: the byte, the rest, the line -/
def sk : Bool → List Int → Int → Int × List Int × Int
  | _, [], l => (-1, [], l)
  | cm, c :: r, l =>
    if c = 10 then sk false r (inc l)
    else if cm = true ∨ c = 32 ∨ c = 9 ∨ c = 13 then sk cm r l
    else if c = 35 ∨ c = 59 then sk true r l
    else (c, r, l)

theorem sk_lf (cm : Bool) (xs : List Int) (l : Int) (hx : xs ≠ []) (h : nextC xs = 10) : sk cm xs l = sk false (nextR xs) (nextL l xs) := by
  cases xs with
  | nil => exact absurd rfl hx
  | cons c r =>
    by_cases hc : c = 13 ∧ r.head? = some 10
    · obtain ⟨rfl, hr⟩ := hc
      cases r with
      | nil => simp at hr
      | cons d r =>
        simp only [List.head?_cons, Option.some_inj] at hr
        subst hr
        simp [sk, nextR, nextL]
    · have h10 : c = 10 := by simpa only [nextC, if_neg hc] using h
      subst h10
      simp [sk, nextR, nextL]

theorem next_other (xs : List Int) (l c : Int) (hc : nextC xs = c) (h10 : c ≠ 10) (h1 : c ≠ -1) : ∃ r, xs = c :: r ∧ nextR xs = r ∧ nextL l xs = l := by
  cases xs with
  | nil => exact absurd hc.symm h1
  | cons d r =>
    by_cases hd : d = 13 ∧ r.head? = some 10
    · exact absurd (by simpa only [nextC, if_pos hd] using hc.symm) h10
    · have e : d = c := by simpa only [nextC, if_neg hd] using hc
      subst e
      refine ⟨r, rfl, by simp only [nextR, if_neg hd], ?_⟩
      simp only [nextL]
      rw [if_neg (fun hh => hh.elim hd h10)]

theorem sk_blank (cm : Bool) (xs : List Int) (l c : Int) (hc : nextC xs = c) (h10 : c ≠ 10) (h1 : c ≠ -1) (h : cm = true ∨ c = 32 ∨ c = 9 ∨ c = 13) : sk cm xs l = sk cm (nextR xs) (nextL l xs) := by
  obtain ⟨r, rfl, hr, hl⟩ := next_other xs l c hc h10 h1
  rw [hr, hl]
  simp only [sk, if_neg h10, if_pos h]

theorem sk_mark (xs : List Int) (l c : Int) (hc : nextC xs = c) (h : c = 35 ∨ c = 59) : sk false xs l = sk true (nextR xs) (nextL l xs) := by
  obtain ⟨r, rfl, hr, hl⟩ := next_other xs l c hc (by omega) (by omega)
  rw [hr, hl]
  have h2 : ¬ (false = true ∨ c = 32 ∨ c = 9 ∨ c = 13) := by simp; omega
  simp only [sk, if_neg (show c ≠ 10 by omega), if_neg h2, if_pos h]

theorem sk_stop (xs : List Int) (l c : Int) (hc : nextC xs = c) (h10 : c ≠ 10) (h1 : c ≠ -1) (h2 : c ≠ 32) (h3 : c ≠ 9) (h4 : c ≠ 13) (h5 : c ≠ 35) (h6 : c ≠ 59) : sk false xs l = (c, nextR xs, nextL l xs) := by
  obtain ⟨r, rfl, hr, hl⟩ := next_other xs l c hc h10 h1
  rw [hr, hl]
  have h7 : ¬ (false = true ∨ c = 32 ∨ c = 9 ∨ c = 13) := by simp; omega
  simp only [sk, if_neg h10, if_neg h7, if_neg (show ¬ (c = 35 ∨ c = 59) by omega)]

theorem nextR_lt (xs : List Int) (h : xs ≠ []) : (nextR xs).length < xs.length := by
  cases xs with
  | nil => exact absurd rfl h
  | cons c r =>
    simp only [nextR]
    split
    · simp; omega
    · simp

theorem nextC_pos (xs : List Int) (h : xs ≠ []) (hb : ∀ x ∈ xs, 0 ≤ x ∧ x ≤ 255) : 0 ≤ nextC xs := by
  cases xs with
  | nil => exact absurd rfl h
  | cons c r =>
    simp only [nextC]
    split
    · omega
    · exact (hb c (by simp)).1

theorem next_val (b : Nat) (a : Option Addr) (xs : List Int) (cap : Nat) (l c : Int) (w : World) (h : Par w b a xs cap l) (hc : nextC xs = c) :
    Calls Try.prog 13 #[.pointer (some ⟨b, 0, none⟩)] w fun e w' => e = .returned (.int .i64 c) ∧ After w w' b (nextR xs) (nextL l xs) := by
  rw [← hc]; exact next_any b a xs cap l w h

/-- the length that stands in the parser's text -/
def lenAt (b : Nat) (w : World) : Nat := match w.cell? ⟨b, 0, none⟩ with | some (.slice _ n _) => n | _ => 0
theorem lenAt_of {b : Nat} {w : World} {a : Option Addr} {xs : List Int} {cap : Nat} {l : Int} (h : Par w b a xs cap l) : lenAt b w = xs.length := by
  unfold lenAt; rw [h.text]

theorem ret_int {k : IntKind} {a b : Int} (h : a = b) : Ending.returned (.int k a) = .returned (.int k b) := by rw [h]

/-- where the loop of skipBlanks stands -/
structure At (w wr : World) (b : Nat) (xs : List Int) (l : Int) (cm : Bool) (ys : List Int) (l' : Int) : Prop where
  par : ∃ a cap, Par wr b a ys cap l'
  same : sk cm ys l' = sk false xs l
  below : Below b w wr
  size : wr.heap.size = w.heap.size

set_option maxHeartbeats 2000000 in
theorem skip_any (b : Nat) (a : Option Addr) (xs : List Int) (cap : Nat) (l : Int) (w : World) (h : Par w b a xs cap l) :
    Calls Try.prog 14 #[.pointer (some ⟨b, 0, none⟩)] w fun e w' => e = .returned (.int .i64 (sk false xs l).1) ∧ After w w' b (sk false xs l).2.1 (sk false xs l).2.2 := by
  have H : Kept (Par w b a xs cap l) := ⟨h⟩
  clear h
  go_enter Try.func14, Try.ntmps14
  go_wp2_with fail
  go_loopw [3] (fun cmv wr => ∃ (cm : Bool) (ys : List Int) (l' : Int), cmv = .bool cm ∧ Kept (At w wr b xs l cm ys l')) (fun _ wr => lenAt b wr)
  case atStart => exact ⟨false, xs, l, rfl, ⟨⟨⟨a, cap, H.out⟩, rfl, Below.refl _ _, rfl⟩⟩⟩
  case round =>
    obtain ⟨cm, ys, l', rfl, HA⟩ := hrel
    clear H
    obtain ⟨a', cap', hp⟩ := HA.out.par
    have HP : Kept (Par wr b a' ys cap' l') := ⟨hp⟩
    clear hp
    by_cases hys : ys = []
    · subst hys
      have HF : Kept (sk false xs l = (-1, [], l')) := ⟨by rw [← HA.out.same]; cases cm <;> rfl⟩
      go_wp2_with fail
      refine (next_val b a' [] cap' l' (-1) wr HP.out rfl).mono ?_
      rintro e w1 ⟨rfl, haf⟩
      have HAf : Kept (After wr w1 b [] l') := ⟨haf⟩
      clear haf
      go_wp2_with fail
      go_ret
      rw [HF.out]
      exact ⟨rfl, HAf.out.1, HA.out.below.trans HAf.out.2.1, HAf.out.2.2.trans HA.out.size⟩
    · obtain ⟨c, hc⟩ : ∃ c, nextC ys = c := ⟨_, rfl⟩
      have HCv : Kept (nextC ys = c) := ⟨hc⟩
      have hdec := nextR_lt ys hys
      have HYS : Kept (ys ≠ []) := ⟨hys⟩
      clear hc hys
      by_cases c10 : c = 10
      · subst c10
        have HS : Kept (sk false (nextR ys) (nextL l' ys) = sk false xs l) := ⟨by rw [← sk_lf cm ys l' HYS.out HCv.out]; exact HA.out.same⟩
        go_wp2_with fail
        refine (next_val b a' ys cap' l' 10 wr HP.out HCv.out).mono ?_
        rintro e w1 ⟨rfl, haf⟩
        have HAf : Kept (At w w1 b xs l false (nextR ys) (nextL l' ys)) := ⟨⟨haf.1, HS.out, HA.out.below.trans haf.2.1, haf.2.2.trans HA.out.size⟩⟩
        have HM : Kept (lenAt b w1 < lenAt b wr) := by
          obtain ⟨a9, cap9, h9⟩ := haf.1
          exact ⟨by rw [lenAt_of h9, lenAt_of HP.out]; exact hdec⟩
        clear haf
        go_wp2_with fail
        go_roundw
        case rel => exact ⟨false, _, _, rfl, HAf⟩
        case measure => exact HM.out
      · have hc0 : 0 ≤ c := by rw [← HCv.out]; exact nextC_pos ys HYS.out HP.out.byte
        have b1 : (c == -1) = false := beq_eq_false_iff_ne.2 (by omega)
        have b10 : (c == 10) = false := beq_eq_false_iff_ne.2 c10
        have C10 : Kept (c ≠ 10) := ⟨c10⟩
        have C1 : Kept (c ≠ -1) := ⟨by omega⟩
        clear c10
        cases cm
        case true =>
          have HS : Kept (sk true (nextR ys) (nextL l' ys) = sk false xs l) := ⟨by rw [← sk_blank true ys l' c HCv.out C10.out C1.out (.inl rfl)]; exact HA.out.same⟩
          go_wp2_with (first | (go_at_call 15; go_in) | fail)
          refine (next_val b a' ys cap' l' c wr HP.out HCv.out).mono ?_
          rintro e w1 ⟨rfl, haf⟩
          have HAf : Kept (At w w1 b xs l true (nextR ys) (nextL l' ys)) := ⟨⟨haf.1, HS.out, HA.out.below.trans haf.2.1, haf.2.2.trans HA.out.size⟩⟩
          have HM : Kept (lenAt b w1 < lenAt b wr) := by
            obtain ⟨a9, cap9, h9⟩ := haf.1
            exact ⟨by rw [lenAt_of h9, lenAt_of HP.out]; exact hdec⟩
          clear haf
          go_wp2_with (first | (go_at_call 15; go_in) | fail)
          go_roundw
          case rel => exact ⟨true, _, _, rfl, HAf⟩
          case measure => exact HM.out
        case false =>
          by_cases c32 : c = 32
          · subst c32
            clear b1 b10
            have HS : Kept (sk false (nextR ys) (nextL l' ys) = sk false xs l) := ⟨by rw [← sk_blank false ys l' 32 HCv.out (by decide) (by decide) (by decide)]; exact HA.out.same⟩
            go_wp2_with (first | (go_at_call 15; go_in) | fail)
            refine (next_val b a' ys cap' l' 32 wr HP.out HCv.out).mono ?_
            rintro e w1 ⟨rfl, haf⟩
            have HAf : Kept (At w w1 b xs l false (nextR ys) (nextL l' ys)) := ⟨⟨haf.1, HS.out, HA.out.below.trans haf.2.1, haf.2.2.trans HA.out.size⟩⟩
            have HM : Kept (lenAt b w1 < lenAt b wr) := by
              obtain ⟨a9, cap9, h9⟩ := haf.1
              exact ⟨by rw [lenAt_of h9, lenAt_of HP.out]; exact hdec⟩
            clear haf
            go_wp2_with (first | (go_at_call 15; go_in) | fail)
            go_roundw
            case rel => exact ⟨false, _, _, rfl, HAf⟩
            case measure => exact HM.out
          by_cases c9 : c = 9
          · subst c9
            clear b1 b10
            have HS : Kept (sk false (nextR ys) (nextL l' ys) = sk false xs l) := ⟨by rw [← sk_blank false ys l' 9 HCv.out (by decide) (by decide) (by decide)]; exact HA.out.same⟩
            go_wp2_with (first | (go_at_call 15; go_in) | fail)
            refine (next_val b a' ys cap' l' 9 wr HP.out HCv.out).mono ?_
            rintro e w1 ⟨rfl, haf⟩
            have HAf : Kept (At w w1 b xs l false (nextR ys) (nextL l' ys)) := ⟨⟨haf.1, HS.out, HA.out.below.trans haf.2.1, haf.2.2.trans HA.out.size⟩⟩
            have HM : Kept (lenAt b w1 < lenAt b wr) := by
              obtain ⟨a9, cap9, h9⟩ := haf.1
              exact ⟨by rw [lenAt_of h9, lenAt_of HP.out]; exact hdec⟩
            clear haf
            go_wp2_with (first | (go_at_call 15; go_in) | fail)
            go_roundw
            case rel => exact ⟨false, _, _, rfl, HAf⟩
            case measure => exact HM.out
          by_cases c13 : c = 13
          · subst c13
            clear b1 b10
            have HS : Kept (sk false (nextR ys) (nextL l' ys) = sk false xs l) := ⟨by rw [← sk_blank false ys l' 13 HCv.out (by decide) (by decide) (by decide)]; exact HA.out.same⟩
            go_wp2_with (first | (go_at_call 15; go_in) | fail)
            refine (next_val b a' ys cap' l' 13 wr HP.out HCv.out).mono ?_
            rintro e w1 ⟨rfl, haf⟩
            have HAf : Kept (At w w1 b xs l false (nextR ys) (nextL l' ys)) := ⟨⟨haf.1, HS.out, HA.out.below.trans haf.2.1, haf.2.2.trans HA.out.size⟩⟩
            have HM : Kept (lenAt b w1 < lenAt b wr) := by
              obtain ⟨a9, cap9, h9⟩ := haf.1
              exact ⟨by rw [lenAt_of h9, lenAt_of HP.out]; exact hdec⟩
            clear haf
            go_wp2_with (first | (go_at_call 15; go_in) | fail)
            go_roundw
            case rel => exact ⟨false, _, _, rfl, HAf⟩
            case measure => exact HM.out
          by_cases c35 : c = 35
          · subst c35
            clear b1 b10
            have HS : Kept (sk true (nextR ys) (nextL l' ys) = sk false xs l) := ⟨by rw [← sk_mark ys l' 35 HCv.out (by decide)]; exact HA.out.same⟩
            go_wp2_with (first | (go_at_call 15; go_in) | fail)
            refine (next_val b a' ys cap' l' 35 wr HP.out HCv.out).mono ?_
            rintro e w1 ⟨rfl, haf⟩
            have HAf : Kept (At w w1 b xs l true (nextR ys) (nextL l' ys)) := ⟨⟨haf.1, HS.out, HA.out.below.trans haf.2.1, haf.2.2.trans HA.out.size⟩⟩
            have HM : Kept (lenAt b w1 < lenAt b wr) := by
              obtain ⟨a9, cap9, h9⟩ := haf.1
              exact ⟨by rw [lenAt_of h9, lenAt_of HP.out]; exact hdec⟩
            clear haf
            go_wp2_with (first | (go_at_call 15; go_in) | fail)
            go_roundw
            case rel => exact ⟨true, _, _, rfl, HAf⟩
            case measure => exact HM.out
          by_cases c59 : c = 59
          · subst c59
            clear b1 b10
            have HS : Kept (sk true (nextR ys) (nextL l' ys) = sk false xs l) := ⟨by rw [← sk_mark ys l' 59 HCv.out (by decide)]; exact HA.out.same⟩
            go_wp2_with (first | (go_at_call 15; go_in) | fail)
            refine (next_val b a' ys cap' l' 59 wr HP.out HCv.out).mono ?_
            rintro e w1 ⟨rfl, haf⟩
            have HAf : Kept (At w w1 b xs l true (nextR ys) (nextL l' ys)) := ⟨⟨haf.1, HS.out, HA.out.below.trans haf.2.1, haf.2.2.trans HA.out.size⟩⟩
            have HM : Kept (lenAt b w1 < lenAt b wr) := by
              obtain ⟨a9, cap9, h9⟩ := haf.1
              exact ⟨by rw [lenAt_of h9, lenAt_of HP.out]; exact hdec⟩
            clear haf
            go_wp2_with (first | (go_at_call 15; go_in) | fail)
            go_roundw
            case rel => exact ⟨true, _, _, rfl, HAf⟩
            case measure => exact HM.out
          have HF : Kept (sk false xs l = (c, nextR ys, nextL l' ys)) := ⟨by rw [← HA.out.same]; exact sk_stop ys l' c HCv.out C10.out C1.out c32 c9 c13 c35 c59⟩
          have b32 : (c == 32) = false := beq_eq_false_iff_ne.2 c32
          have b9 : (c == 9) = false := beq_eq_false_iff_ne.2 c9
          have b13 : (c == 13) = false := beq_eq_false_iff_ne.2 c13
          have b35 : (c == 35) = false := beq_eq_false_iff_ne.2 c35
          have b59 : (c == 59) = false := beq_eq_false_iff_ne.2 c59
          clear c32 c9 c13 c35 c59
          go_wp2_with (first | (go_at_call 15; go_in) | fail)
          refine (next_val b a' ys cap' l' c wr HP.out HCv.out).mono ?_
          rintro e w1 ⟨rfl, haf⟩
          have HAf : Kept (After wr w1 b (nextR ys) (nextL l' ys)) := ⟨haf⟩
          clear haf
          go_wp2_with (first | (go_at_call 15; go_in) | fail)
          go_ret
          rw [HF.out]
          exact ⟨rfl, HAf.out.1, HA.out.below.trans HAf.out.2.1, HAf.out.2.2.trans HA.out.size⟩

set_option maxHeartbeats 400000 in
theorem zzSkip_any (a : Option Addr) (xs : List Int) (cap : Nat) (l : Int) (w : World) (hr : ByteRow w w.heap.size a xs) (hl : xs.length ≤ cap) (hs : xs.length ≤ 1048576) (hb : ∀ x ∈ xs, 0 ≤ x ∧ x ≤ 255) :
    Calls Try.prog 11 #[.slice a xs.length cap, .int .i64 l] w fun e w' => ∃ a' cap', Out w w' e (sk false xs l).1 a' (sk false xs l).2.1 cap' (sk false xs l).2.2 := by
  have HR : Kept (ByteRow w w.heap.size a xs) := ⟨hr⟩
  have HB : Kept (∀ x ∈ xs, 0 ≤ x ∧ x ≤ 255) := ⟨hb⟩
  have HK : Kept (∀ (w' : World) (h : Par w' w.heap.size a xs cap l), Calls Try.prog 14 #[.pointer (some ⟨w.heap.size, 0, none⟩)] w' fun e w2 => e = .returned (.int .i64 (sk false xs l).1) ∧ After w' w2 w.heap.size (sk false xs l).2.1 (sk false xs l).2.2) := ⟨fun w' h => skip_any w.heap.size a xs cap l w' h⟩
  clear hr hb
  generalize sk false xs l = R at HK ⊢
  obtain ⟨C, Y, L⟩ := R
  go_enter Try.func11, Try.ntmps11
  go_wp2_with fail
  refine (HK.out _ ?_).mono ?_
  · exact ⟨by simp, by simp, by simp, by simp, HR.out.below ((Below.refl _ _).alloc (Nat.le_refl _) _) (Nat.le_refl _), hl, hs, HB.out⟩
  rintro e w1 ⟨rfl, ⟨a', cap', hp⟩, hbel, hsz⟩
  have h0 := hp.text
  have h1 := hp.line
  have HP : Kept (Par w1 w.heap.size a' Y cap' L) := ⟨hp⟩
  have HBel : Kept (Below w.heap.size w w1) := ⟨((Below.refl _ _).alloc (Nat.le_refl _) _).trans hbel⟩
  clear hp hbel hsz HK
  go_wp2_with fail
  go_quiet (fail)
  go_wp2_with fail
  go_ret3
  exact ⟨a', cap', rfl, HP.out.row.drewN nq, HP.out.len, below_drewN HBel.out nq⟩

theorem zzSkip_val (a : Option Addr) (xs ys : List Int) (len cap : Nat) (l c l' : Int) (w : World) (hlen : len = xs.length) (hr : ByteRow w w.heap.size a xs) (hl : xs.length ≤ cap) (hs : xs.length ≤ 1048576) (hb : ∀ x ∈ xs, 0 ≤ x ∧ x ≤ 255)
    (h : sk false xs l = (c, ys, l')) :
    Calls Try.prog 11 #[.slice a len cap, .int .i64 l] w fun e w' => ∃ a' cap', Out w w' e c a' ys cap' l' := by
  subst hlen
  have := zzSkip_any a xs cap l w hr hl hs hb
  rw [h] at this
  exact this
end Cfg
end Go.Proofs.Qxb6617867a
