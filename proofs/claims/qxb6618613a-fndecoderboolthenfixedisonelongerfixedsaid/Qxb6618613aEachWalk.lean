import Derived.Test.Qxb6618613aDec
namespace Go.Proofs.Qxb6618613a
open Go.RowKit
namespace Dec

theorem At.drewN {w : World} {b : Nat} {a : Option Addr} {xs : List Int} {cap : Nat} {sh : Bool} (h : At w b a xs cap sh) (q : Nat) : At (w.drewN q) b a xs cap sh :=
  ⟨by simpa using h.rest, by simpa using h.short, by simpa using h.fr, by simpa using h.fs, h.row.drewN q, h.len, h.small⟩

theorem rest_quiet (W : World) (q : Nat) (b : Nat) (a : Option Addr) (xs : List Int) (cap : Nat) (sh : Bool) (h : At W b a xs cap sh) :
    Calls Try.prog 11 #[.pointer (some ⟨b, 0, none⟩)] (W.drewN q) fun e w' => e = .returned (.slice a xs.length cap) ∧ ∃ n, w' = W.drewN n := by
  have h0 := h.rest
  clear h
  go_enter Try.func11, Try.ntmps11
  go_wp2
  go_ret
  exact ⟨rfl, q, rfl⟩

theorem same_quiet (W : World) (q : Nat) (a a2 : Option Addr) (len len2 : Nat) (xs ys : List Int) (cap cap2 : Nat) (B : Nat) (hl : len = xs.length) (hl2 : len2 = ys.length) (hr : ByteRow W B a xs) (hr2 : ByteRow W B a2 ys) (hs : xs.length ≤ 1048576) (h : xs = ys) :
    Calls Try.prog 10 #[.slice a len cap, .slice a2 len2 cap2] (W.drewN q) fun e w' => e = .returned (.bool true) ∧ ∃ n, w' = W.drewN n :=
  (same_val a a2 len len2 xs ys cap cap2 (W.drewN q) B hl hl2 (hr.drewN q) (hr2.drewN q) hs h).mono fun e w' ⟨h1, q2, h2⟩ => ⟨h1, q + q2, by rw [h2]; simp⟩

set_option maxHeartbeats 400000 in
theorem new_any (a : Option Addr) (n c : Nat) (s : Bool) (w : World) :
    Calls Try.prog 7 #[.slice a n c, .bool s] w fun e w' => e = .returned (.pointer (some ⟨w.heap.size, 0, none⟩)) ∧ w' = w.alloc (.cells #[.slice a n c, .bool s] 34) := by
  go_enter Try.func7, Try.ntmps7
  go_wp2
  go_ret
  exact ⟨rfl, rfl⟩

theorem short_any (b : Nat) (a : Option Addr) (xs : List Int) (cap : Nat) (sh : Bool) (w : World) (h : At w b a xs cap sh) :
    Calls Try.prog 9 #[.pointer (some ⟨b, 0, none⟩)] w fun e w' => e = .returned (.bool sh) ∧ w = w' := by
  have h0 := h.short
  clear h
  go_enter Try.func9, Try.ntmps9
  go_wp2
  go_ret
  exact ⟨rfl, rfl⟩

theorem rest_any (b : Nat) (a : Option Addr) (xs : List Int) (cap : Nat) (sh : Bool) (w : World) (h : At w b a xs cap sh) :
    Calls Try.prog 11 #[.pointer (some ⟨b, 0, none⟩)] w fun e w' => e = .returned (.slice a xs.length cap) ∧ w = w' := by
  have h0 := h.rest
  clear h
  go_enter Try.func11, Try.ntmps11
  go_wp2
  go_ret
  exact ⟨rfl, rfl⟩

theorem zzbool_short (b : Nat) (a : Option Addr) (xs : List Int) (cap : Nat) (sh : Bool) (w : World) (h : At w b a xs cap sh) (hs : sh = true ∨ xs = []) :
    Calls Try.prog 8 #[.pointer (some ⟨b, 0, none⟩)] w fun e w' => e = .returned (.bool false) ∧ At w' b a xs cap true ∧ Left w w' b := by
  have H := Kept.mk h
  have HS := Kept.mk hs
  clear h hs
  go_enter Try.func8, Try.ntmps8
  go_wp2_with fail
  refine (bool_short b a xs cap sh w H.out HS.out).mono ?_
  rintro e w1 ⟨rfl, h1, h2⟩
  have H1 := Kept.mk h1
  have H2 := Kept.mk h2
  clear h1 h2
  go_wp2_with fail
  go_ret
  exact ⟨rfl, H1.out, H2.out⟩

theorem zzbool_ok (b blk off : Nat) (c : Int) (r : List Int) (cap : Nat) (w : World) (h : At w b (some ⟨blk, off, none⟩) (c :: r) cap false) :
    Calls Try.prog 8 #[.pointer (some ⟨b, 0, none⟩)] w fun e w' => e = .returned (.bool (c == 1)) ∧ (∃ off' cap', At w' b (some ⟨blk, off', none⟩) r cap' false) ∧ Left w w' b := by
  have H := Kept.mk h
  clear h
  go_enter Try.func8, Try.ntmps8
  go_wp2_with fail
  refine (bool_ok b blk off c r cap w H.out).mono ?_
  rintro e w1 ⟨rfl, h1, h2⟩
  have H1 := Kept.mk h1
  have H2 := Kept.mk h2
  clear h1 h2
  go_wp2_with fail
  go_ret
  exact ⟨rfl, H1.out, H2.out⟩

theorem zzfixed_short (b : Nat) (a : Option Addr) (xs : List Int) (cap : Nat) (sh : Bool) (n : Int) (w : World) (h : At w b a xs cap sh) (hs : sh = true ∨ (xs.length : Int) < n) :
    Calls Try.prog 13 #[.pointer (some ⟨b, 0, none⟩), .int .u64 n] w fun e w' => e = .returned (.slice none 0 0) ∧ At w' b a xs cap true ∧ Left w w' b := by
  have H := Kept.mk h
  have HS := Kept.mk hs
  clear h hs
  go_enter Try.func13, Try.ntmps13
  go_wp2_with fail
  refine (fixed_short b a xs cap sh n w H.out HS.out).mono ?_
  rintro e w1 ⟨rfl, h1, h2⟩
  have H1 := Kept.mk h1
  have H2 := Kept.mk h2
  clear h1 h2
  go_wp2_with fail
  go_ret
  exact ⟨rfl, H1.out, H2.out⟩

theorem zzfixed_some (b blk off : Nat) (xs : List Int) (cap m : Nat) (w : World) (h : At w b (some ⟨blk, off, none⟩) xs cap false) (hm : m ≤ xs.length) :
    Calls Try.prog 13 #[.pointer (some ⟨b, 0, none⟩), .int .u64 (m : Int)] w fun e w' => e = .returned (.slice (some ⟨blk, off, none⟩) m cap) ∧ (∃ off' cap', At w' b (some ⟨blk, off', none⟩) (xs.drop m) cap' false) ∧ Left w w' b := by
  have H := Kept.mk h
  have HM := Kept.mk hm
  clear h hm
  go_enter Try.func13, Try.ntmps13
  go_wp2_with fail
  refine (fixed_some b blk off xs cap m w H.out HM.out).mono ?_
  rintro e w1 ⟨rfl, h1, h2⟩
  have H1 := Kept.mk h1
  have H2 := Kept.mk h2
  clear h1 h2
  go_wp2_with fail
  go_ret
  exact ⟨rfl, H1.out, H2.out⟩

/-- a row that does not lie in block b is there behind a read -/
theorem ByteRow.left {w w' : World} {b B : Nat} {a : Option Addr} {xs : List Int} (h : ByteRow w B a xs) (hl : Left w w' b) (hB : B ≤ b) (B' : Nat) (hB' : B ≤ B') : ByteRow w' B' a xs := by
  rcases h with h | ⟨blk, off, rfl, hlt, hc⟩
  · exact .inl h
  · refine .inr ⟨blk, off, rfl, by omega, fun i hi => ?_⟩
    have h1 := hc i hi
    rw [← h1]
    exact World.cell?_of_block (hl.above blk (by omega))

theorem Left.trans {a b c : World} {k : Nat} (h : Left a b k) (g : Left b c k) : Left a c k :=
  ⟨h.below.trans g.below, g.size.trans h.size, fun i hi => (g.above i hi).trans (h.above i hi)⟩

theorem drop_at (T : List Int) (p : Nat) (hp : p < T.length) : T.drop p = T.getD p 0 :: T.drop (p + 1) := by
  rw [List.drop_eq_getElem_cons hp]
  simp [List.getD, List.getElem?_eq_getElem hp]

/-- the two clones and the decoder, in the world in which the reads begin -/
structure Start (w w2 wD : World) (a1 a2 : Option Addr) (T : List Int) (sh : Bool) : Prop where
  dec : At wD w2.heap.size a1 T T.length sh
  exp : ByteRow wD w2.heap.size a2 T
  below : Below w.heap.size w wD
  lt : w.heap.size ≤ w2.heap.size
  size : wD.heap.size = w2.heap.size + 1

theorem start_of {w w1 w2 : World} {a1 a2 : Option Addr} {T : List Int} (sh : Bool) (hz : T.length ≤ 1048576) (h1 : Clone w w1 a1 T) (h2 : Clone w1 w2 a2 T) :
    Start w w2 (w2.alloc (.cells #[.slice a1 T.length T.length, .bool sh] 34)) a1 a2 T sh := by
  have hb : Below w2.heap.size w2 (w2.alloc (.cells #[.slice a1 T.length T.length, .bool sh] 34)) := (Below.refl _ _).alloc (Nat.le_refl _) _
  refine ⟨⟨by simp, by simp, by simp, by simp, (h1.row.later h2.below).below hb (Nat.le_refl _), Nat.le_refl _, hz⟩, h2.row.below hb (Nat.le_refl _), ?_, Nat.le_trans h1.below.size h2.below.size, by simp⟩
  exact (h1.below.trans (h2.below.mono h1.below.size)).trans (hb.mono (Nat.le_trans h1.below.size h2.below.size))

set_option maxRecDepth 100000 in
set_option maxHeartbeats 2000000 in
theorem each_short (a : Option Addr) (cap : Nat) (T : List Int) (k : Nat) (w : World) (hr : ByteRow w w.heap.size a T) (hnl : a = none → T = []) (hz : T.length ≤ 1048576) (hk : k ≤ 65536) :
    Calls Try.prog 3 #[.slice a T.length cap, .bool true, .int .i64 k] w fun e w' => e = .returned (.bool true) ∧ Below w.heap.size w w' := by
  have HR : Kept (ByteRow w w.heap.size a T) := ⟨hr⟩
  have HNL : Kept (a = none → T = []) := ⟨hnl⟩
  clear hr hnl
  go_enter Try.func3, Try.ntmps3
  go_wp2_with (first | (go_at_call 5; go_in) | fail)
  refine (clone_any a T cap w HR.out HNL.out hz).mono ?_
  rintro e w1 ⟨a1, rfl, hc1⟩
  have HC1 := Kept.mk hc1
  clear hc1
  go_wp2_with fail
  refine (clone_any a1 T T.length w1 HC1.out.row (by rcases HC1.out.shape with ⟨_, h⟩ | ⟨g, h⟩; (intro _; exact h); (rw [h]; intro h9; cases h9)) hz).mono ?_
  rintro e w2 ⟨a2, rfl, hc2⟩
  have HST := Kept.mk (start_of true hz HC1.out hc2)
  have HSH := Kept.mk hc2.shape
  clear hc2 HC1
  go_wp2_with fail
  refine (new_any a1 T.length T.length true w2).mono ?_
  rintro e wD ⟨rfl, hwD⟩
  rw [← hwD] at HST
  clear hwD
  go_wp2_with fail
  go_loopw [9] (fun iv wr => ∃ i : Nat, i ≤ k ∧ iv = .int .i64 i ∧ Kept ((∃ a' cap', At wr w2.heap.size a' T cap' true) ∧ Left wD wr w2.heap.size)) (fun iv _ => k - (intOf iv).toNat)
  case atStart => exact ⟨0, Nat.zero_le _, rfl, ⟨⟨_, _, HST.out.dec⟩, Left.refl _ _⟩⟩
  case round =>
    obtain ⟨i, hi, rfl, HI⟩ := hrel
    obtain ⟨⟨a', cap', hat⟩, hleft⟩ := HI.out
    have HAt := Kept.mk hat
    have HLe := Kept.mk hleft
    clear hat hleft HI
    by_cases hik : i < k
    · go_wp2_with (first | fail | fail)
      refine (zzbool_short _ a' T cap' true wr HAt.out (.inl rfl)).mono ?_
      rintro e w3 ⟨rfl, h1, h2⟩
      have HN : Kept ((∃ a' cap', At w3 w2.heap.size a' T cap' true) ∧ Left wD w3 w2.heap.size) := ⟨⟨a', cap', h1⟩, HLe.out.trans h2⟩
      clear h1 h2
      go_wp2_with fail
      go_roundw
      case rel => exact ⟨i + 1, by omega, by go_num, HN⟩
      case measure => simp [intOf]; omega
    · have HBF : Kept (Below w.heap.size w wr) := ⟨HST.out.below.trans (HLe.out.below.mono HST.out.lt)⟩
      have HEX : Kept (ByteRow wr wr.heap.size a2 T) := ⟨HST.out.exp.left HLe.out (Nat.le_refl _) _ (by rw [HLe.out.size, HST.out.size]; omega)⟩
      have HRW : Kept (ByteRow wr wr.heap.size a' T) := ⟨HAt.out.row.below (Below.refl _ _) (by rw [HLe.out.size, HST.out.size]; omega)⟩
      rcases HSH.out with ⟨rfl, rfl⟩ | ⟨g, rfl⟩
      · go_wp2_with (first | (go_at_call 9; refine (short_any _ _ _ _ _ _ HAt.out).mono ?_; rintro e9 w9 ⟨rfl, rfl⟩) | fail)
        go_quiet ((first | (go_at_call 11; exact rest_quiet _ _ _ _ _ _ _ HAt.out) | (go_at_call 10; exact same_quiet _ _ _ _ _ _ [] [] _ _ _ rfl rfl HRW.out HEX.out (by simp) rfl)))
        go_wp2_with fail
        go_ret
        exact ⟨rfl, below_drewN HBF.out _⟩
      · go_wp2_with (first | (go_at_call 9; refine (short_any _ _ _ _ _ _ HAt.out).mono ?_; rintro e9 w9 ⟨rfl, rfl⟩) | fail)
        go_quiet ((first | (go_at_call 11; exact rest_quiet _ _ _ _ _ _ _ HAt.out) | (go_at_call 10; exact same_quiet _ _ _ _ _ _ T T _ _ _ rfl rfl HRW.out HEX.out hz rfl)))
        go_wp2_with fail
        go_ret
        exact ⟨rfl, below_drewN HBF.out _⟩

set_option maxRecDepth 100000 in
set_option maxHeartbeats 2000000 in
theorem each_ok (a : Option Addr) (cap : Nat) (T : List Int) (k : Nat) (w : World) (hr : ByteRow w w.heap.size a T) (hnl : a = none → T = []) (hz : T.length ≤ 1048576) (hk : k ≤ 65536) :
    Calls Try.prog 3 #[.slice a T.length cap, .bool false, .int .i64 k] w fun e w' => e = .returned (.bool true) ∧ Below w.heap.size w w' := by
  have HR : Kept (ByteRow w w.heap.size a T) := ⟨hr⟩
  have HNL : Kept (a = none → T = []) := ⟨hnl⟩
  clear hr hnl
  go_enter Try.func3, Try.ntmps3
  go_wp2_with (first | (go_at_call 5; go_in) | fail)
  refine (clone_any a T cap w HR.out HNL.out hz).mono ?_
  rintro e w1 ⟨a1, rfl, hc1⟩
  have HC1 := Kept.mk hc1
  clear hc1
  go_wp2_with fail
  refine (clone_any a1 T T.length w1 HC1.out.row (by rcases HC1.out.shape with ⟨_, h⟩ | ⟨g, h⟩; (intro _; exact h); (rw [h]; intro h9; cases h9)) hz).mono ?_
  rintro e w2 ⟨a2, rfl, hc2⟩
  have HST := Kept.mk (start_of false hz HC1.out hc2)
  have HSH := Kept.mk hc2.shape
  clear hc2 HC1
  go_wp2_with fail
  refine (new_any a1 T.length T.length false w2).mono ?_
  rintro e wD ⟨rfl, hwD⟩
  rw [← hwD] at HST
  clear hwD
  go_wp2_with fail
  go_loopw [9] (fun iv wr => ∃ i : Nat, i ≤ k ∧ iv = .int .i64 i ∧ Kept ((∃ a' cap', At wr w2.heap.size a' (T.drop i) cap' (decide (T.length < i))) ∧ Left wD wr w2.heap.size)) (fun iv _ => k - (intOf iv).toNat)
  case atStart => exact ⟨0, Nat.zero_le _, rfl, ⟨⟨_, _, HST.out.dec⟩, Left.refl _ _⟩⟩
  case round =>
    obtain ⟨i, hi, rfl, HI⟩ := hrel
    obtain ⟨⟨a', cap', hat⟩, hleft⟩ := HI.out
    have HLe := Kept.mk hleft
    have HEX : Kept (ByteRow wr wr.heap.size a2 T) := ⟨HST.out.exp.left hleft (Nat.le_refl _) _ (by rw [hleft.size, HST.out.size]; omega)⟩
    clear hleft HI
    by_cases hik : i < k
    · by_cases hin : i < T.length
      · have hin' : (i : Int) < (T.length : Int) := by omega
        rw [decide_eq_false (show ¬ T.length < i by omega), drop_at T i hin] at hat
        obtain ⟨blk, off, rfl⟩ : ∃ blk off, a' = some ⟨blk, off, none⟩ := by
          rcases hat.row with hn | ⟨blk, off, he, _, _⟩
          · cases hn
          · exact ⟨blk, off, he⟩
        obtain ⟨g, hg⟩ : ∃ g, a2 = some ⟨g, 0, none⟩ := by
          rcases HSH.out with ⟨_, h9⟩ | h9
          · rw [h9] at hin; simp at hin
          · exact h9
        subst hg
        obtain ⟨blk2, off2, hab, hcell⟩ := HEX.out.at hin
        simp only [Option.some.injEq, Addr.mk.injEq, and_true] at hab
        obtain ⟨rfl, rfl⟩ := hab
        rw [Nat.zero_add] at hcell
        obtain ⟨c, hce⟩ : ∃ c, T.getD i 0 = c := ⟨_, rfl⟩
        rw [hce] at hcell hat
        have HCc := Kept.mk hcell
        have HAt := Kept.mk hat
        have hgl : g < w2.heap.size := by
          rcases HST.out.exp with h9 | ⟨b9, o9, h8, h7, _⟩
          · rw [h9] at hin; simp at hin
          · simp only [Option.some.injEq, Addr.mk.injEq, and_true] at h8; omega
        clear hat hce hcell
        go_wp2_with fail
        refine (zzbool_ok _ blk off c (T.drop (i + 1)) cap' wr HAt.out).mono ?_
        rintro e w3 ⟨rfl, ⟨off3, cap3, h1⟩, h2⟩
        have HN : Kept ((∃ a' cap', At w3 w2.heap.size a' (T.drop (i + 1)) cap' (decide (T.length < i + 1))) ∧ Left wD w3 w2.heap.size) := ⟨⟨_, cap3, by rw [decide_eq_false (show ¬ T.length < i + 1 by omega)]; exact h1⟩, HLe.out.trans h2⟩
        have hcell3 : w3.cell? ⟨g, i, none⟩ = some (.int .u8 c) := by rw [← HCc.out]; exact World.cell?_of_block (h2.above g (by omega))
        clear h1 h2
        go_wp2_with fail
        go_roundw
        case rel => exact ⟨i + 1, by omega, by go_num, HN⟩
        case measure => simp [intOf]; omega
      · have hin' : ¬ (i : Int) < (T.length : Int) := by omega
        have hd : T.drop i = [] := List.drop_eq_nil_of_le (by omega)
        have hd1 : T.drop (i + 1) = [] := List.drop_eq_nil_of_le (by omega)
        rw [hd] at hat
        have HAt := Kept.mk hat
        have HD1 := Kept.mk hd1
        clear hat hd hd1
        go_wp2_with fail
        refine (zzbool_short _ a' [] cap' _ wr HAt.out (.inr rfl)).mono ?_
        rintro e w3 ⟨rfl, h1, h2⟩
        have HN : Kept ((∃ a' cap', At w3 w2.heap.size a' (T.drop (i + 1)) cap' (decide (T.length < i + 1))) ∧ Left wD w3 w2.heap.size) := ⟨⟨a', cap', by rw [HD1.out, decide_eq_true (show T.length < i + 1 by omega)]; exact h1⟩, HLe.out.trans h2⟩
        clear h1 h2
        go_wp2_with fail
        go_roundw
        case rel => exact ⟨i + 1, by omega, by go_num, HN⟩
        case measure => simp [intOf]; omega
    · obtain rfl : k = i := by omega
      have HBF : Kept (Below w.heap.size w wr) := ⟨HST.out.below.trans (HLe.out.below.mono HST.out.lt)⟩
      have HRW : Kept (ByteRow wr wr.heap.size a' (T.drop k)) := ⟨hat.row.below (Below.refl _ _) (by rw [HLe.out.size, HST.out.size]; omega)⟩
      by_cases hkn : T.length < k
      · have hkn' : (T.length : Int) < (k : Int) := by omega
        rw [decide_eq_true hkn] at hat
        have hd : T.drop k = [] := List.drop_eq_nil_of_le (by omega)
        rw [hd] at hat HRW
        have HAt := Kept.mk hat
        clear hat hd
        rcases HSH.out with ⟨rfl, rfl⟩ | ⟨g, rfl⟩
        · have hk1 : 0 < k := by simpa using hkn
          have hk0 : (0 : Int) < (k : Int) := by omega
          have hk2 : decide ((0 : Int) < (k : Int)) = true := decide_eq_true hk0
          clear hkn hkn'
          go_wp2_with (first | (go_at_call 9; refine (short_any _ _ _ _ _ _ HAt.out).mono ?_; rintro e9 w9 ⟨rfl, rfl⟩) | fail)
          go_quiet ((first | (go_at_call 11; exact rest_quiet _ _ _ _ _ _ _ HAt.out) | (go_at_call 10; exact same_quiet _ _ _ _ _ _ [] [] _ _ _ rfl rfl HRW.out (.inl rfl) (by simp) rfl)))
          go_wp2_with fail
          go_ret
          exact ⟨rfl, below_drewN HBF.out _⟩
        · go_wp2_with (first | (go_at_call 9; refine (short_any _ _ _ _ _ _ HAt.out).mono ?_; rintro e9 w9 ⟨rfl, rfl⟩) | fail)
          go_quiet ((first | (go_at_call 11; exact rest_quiet _ _ _ _ _ _ _ HAt.out) | (go_at_call 10; exact same_quiet _ _ _ _ _ _ [] [] _ _ _ rfl rfl HRW.out (.inl rfl) (by simp) rfl)))
          go_wp2_with fail
          go_ret
          exact ⟨rfl, below_drewN HBF.out _⟩
      · have hkn' : ¬ (T.length : Int) < (k : Int) := by omega
        rw [decide_eq_false hkn] at hat
        have HAt := Kept.mk hat
        clear hat
        rcases HSH.out with ⟨rfl, rfl⟩ | ⟨g, rfl⟩
        · obtain rfl : k = 0 := by simp at hkn; omega
          replace HAt : Kept (At wr w2.heap.size a' [] cap' false) := ⟨HAt.out⟩
          replace HRW : Kept (ByteRow wr wr.heap.size a' []) := ⟨.inl rfl⟩
          clear hkn hkn'
          go_wp2_with (first | (go_at_call 9; refine (short_any _ _ _ _ _ _ HAt.out).mono ?_; rintro e9 w9 ⟨rfl, rfl⟩) | fail)
          go_quiet ((first | (go_at_call 11; exact rest_quiet _ _ _ _ _ _ _ HAt.out) | (go_at_call 10; exact same_quiet _ _ _ _ _ _ [] [] _ _ _ rfl rfl HRW.out (.inl rfl) (by simp) rfl)))
          go_wp2_with fail
          go_ret
          exact ⟨rfl, below_drewN HBF.out _⟩
        · by_cases hke : T.length = k
          · subst hke
            have hd : T.drop T.length = [] := List.drop_eq_nil_of_le (Nat.le_refl _)
            rw [hd] at HAt HRW
            clear hd
            go_wp2_with (first | (go_at_call 9; refine (short_any _ _ _ _ _ _ HAt.out).mono ?_; rintro e9 w9 ⟨rfl, rfl⟩) | fail)
            go_quiet ((first | (go_at_call 11; exact rest_quiet _ _ _ _ _ _ _ HAt.out) | (go_at_call 10; exact same_quiet _ _ _ _ _ _ [] [] _ _ _ rfl rfl HRW.out (.inl rfl) (by simp) rfl)))
            go_wp2_with fail
            go_ret
            exact ⟨rfl, below_drewN HBF.out _⟩
          · have HXD : Kept (ByteRow wr wr.heap.size (some ⟨g, k, none⟩) (T.drop k)) := ⟨by have h9 := HEX.out.drop k; rw [Nat.zero_add] at h9; exact h9⟩
            have hle9 : (k : Int) ≤ (T.length : Int) := by omega
            go_wp2_with (first | (go_at_call 9; refine (short_any _ _ _ _ _ _ HAt.out).mono ?_; rintro e9 w9 ⟨rfl, rfl⟩) | fail)
            go_quiet ((first | (go_at_call 11; exact rest_quiet _ _ _ _ _ _ _ HAt.out) | (go_at_call 10; exact same_quiet _ _ _ _ _ _ (T.drop k) (T.drop k) _ _ _ (by have h9 := List.length_drop (i := k) (l := T); omega) (by have h9 := List.length_drop (i := k) (l := T); omega) HRW.out HXD.out (by have h9 := List.length_drop (i := k) (l := T); omega) rfl)))
            go_wp2_with fail
            go_ret
            exact ⟨rfl, below_drewN HBF.out _⟩

end Dec
end Go.Proofs.Qxb6618613a
