import Derived.Test.Qxb6618613aEachWalk
namespace Go.Proofs.Qxb6618613a
open Go.RowKit
namespace Dec

theorem At.below {w w' : World} {b B : Nat} {a : Option Addr} {xs : List Int} {cap : Nat} {sh : Bool} (h : At w b a xs cap sh) (hb : Below B w w') (hB : b < B) : At w' b a xs cap sh :=
  ⟨by rw [hb.cell (p := ⟨b, 0, none⟩) hB]; exact h.rest, by rw [hb.cell (p := ⟨b, 1, none⟩) hB]; exact h.short, by rw [hb.frozen (p := ⟨b, 0, none⟩) hB]; exact h.fr, by rw [hb.frozen (p := ⟨b, 1, none⟩) hB]; exact h.fs,
    h.row.below (hb.mono (Nat.le_of_lt hB)) (Nat.le_refl _), h.len, h.small⟩

theorem Clone.nil_of {w w' : World} {a : Option Addr} {xs : List Int} (h : Clone w w' a xs) : a = none → xs = [] := by
  rcases h.shape with ⟨_, h⟩ | ⟨g, h⟩
  · intro _; exact h
  · rw [h]; intro h9; cases h9

/-- a decoder over a fresh clone -/
theorem fresh_dec {w w1 : World} {a : Option Addr} {T : List Int} (sh : Bool) (hz : T.length ≤ 1048576) (h : Clone w w1 a T) :
    At (w1.alloc (.cells #[.slice a T.length T.length, .bool sh] 34)) w1.heap.size a T T.length sh ∧ Below w.heap.size w (w1.alloc (.cells #[.slice a T.length T.length, .bool sh] 34)) ∧ Below w1.heap.size w1 (w1.alloc (.cells #[.slice a T.length T.length, .bool sh] 34)) ∧ (w1.alloc (.cells #[.slice a T.length T.length, .bool sh] 34)).heap.size = w1.heap.size + 1 := by
  have hb : Below w1.heap.size w1 (w1.alloc (.cells #[.slice a T.length T.length, .bool sh] 34)) := (Below.refl _ _).alloc (Nat.le_refl _) _
  exact ⟨⟨by simp, by simp, by simp, by simp, h.row.below hb (Nat.le_refl _), Nat.le_refl _, hz⟩, h.below.trans (hb.mono h.below.size), hb, by simp⟩

set_option maxRecDepth 100000 in
set_option maxHeartbeats 4000000 in
theorem then_short (a : Option Addr) (cap : Nat) (T : List Int) (n : Int) (hn0 : 0 ≤ n) (hn1 : n ≤ 18446744073709551614) (w : World) (hr : ByteRow w w.heap.size a T) (hnl : a = none → T = []) (hz : (T : List Int).length ≤ 1048576) :
    Calls Try.prog 4 #[.slice a (T : List Int).length cap, .bool true, .int .u64 n] w fun e w' => e = .returned (.bool true) ∧ Below w.heap.size w w' := by
  have HR := Kept.mk hr
  have HNL := Kept.mk hnl
  clear hr hnl
  go_enter Try.func4, Try.ntmps4
  go_wp2_with (first | (go_at_call 12; go_in) | fail)
  refine (clone_any a T cap w HR.out HNL.out hz).mono ?_
  rintro e w1 ⟨a1, rfl, hc1⟩
  have HC1 := Kept.mk hc1
  clear hc1
  go_wp2_with fail
  refine (clone_any a1 T _ w1 HC1.out.row HC1.out.nil_of hz).mono ?_
  rintro e w2 ⟨a2, rfl, hc2⟩
  have HC2 := Kept.mk hc2
  have HA1 := Kept.mk (HC1.out.row.later hc2.below)
  clear hc2
  go_wp2_with fail
  refine (clone_any a1 T _ w2 HA1.out HC1.out.nil_of hz).mono ?_
  rintro e w3 ⟨a3, rfl, hc3⟩
  have HC3 := Kept.mk hc3
  clear hc3
  go_wp2_with fail
  refine (new_any a3 _ _ true w3).mono ?_
  rintro e wD ⟨rfl, hwD⟩
  have HD1 : Kept (At wD w3.heap.size a3 T (T : List Int).length true ∧ Below w2.heap.size w2 wD ∧ Below w3.heap.size w3 wD ∧ wD.heap.size = w3.heap.size + 1) := ⟨by rw [hwD]; exact fresh_dec true hz HC3.out⟩
  clear hwD
  go_wp2_with fail
  refine (zzbool_short _ a3 T _ true wD HD1.out.1 (.inl rfl)).mono ?_
  rintro e w4 ⟨rfl, h1, h2⟩
  have HAt0 := Kept.mk h1
  have HL4 := Kept.mk h2
  clear h1 h2
  go_wp2_with fail
  refine (zzfixed_short _ a3 T _ true n w4 HAt0.out (.inl rfl)).mono ?_
  rintro e w5 ⟨rfl, h1, h2⟩
  have HAt1 := Kept.mk h1
  have HL5 := Kept.mk (HL4.out.trans h2)
  clear h1 h2 HAt0 HL4
  -- the second decoder
  have HEX5 : Kept (ByteRow w5 w5.heap.size a2 T) := ⟨(HC2.out.row.later HC3.out.below).below ((HD1.out.2.2.1).trans HL5.out.below) (by rw [HL5.out.size, HD1.out.2.2.2]; omega)⟩
  have HA15 : Kept (ByteRow w5 w5.heap.size a1 T) := ⟨(HA1.out.later HC3.out.below).below ((HD1.out.2.2.1).trans HL5.out.below) (by rw [HL5.out.size, HD1.out.2.2.2]; omega)⟩
  have HB5 : Kept (Below w.heap.size w w5) := ⟨((HC1.out.below.trans (HC2.out.below.mono HC1.out.below.size)).trans (HD1.out.2.1.mono (Nat.le_trans HC1.out.below.size HC2.out.below.size))).trans (HL5.out.below.mono (Nat.le_trans HC1.out.below.size (Nat.le_trans HC2.out.below.size HC3.out.below.size)))⟩
  have HLT : Kept (w3.heap.size < w5.heap.size) := ⟨by rw [HL5.out.size, HD1.out.2.2.2]; omega⟩
  have HN1 := Kept.mk HC1.out.nil_of
  have HSH2 := Kept.mk HC2.out.shape
  clear HD1 HC1 HC2 HC3 HA1 HL5
  go_wp2_with fail
  refine (clone_any a1 T _ w5 HA15.out HN1.out hz).mono ?_
  rintro e w6 ⟨a4, rfl, hc4⟩
  have HC4 := Kept.mk hc4
  clear hc4
  go_wp2_with fail
  refine (new_any a4 _ _ true w6).mono ?_
  rintro e wE ⟨rfl, hwE⟩
  have HD2 : Kept (At wE w6.heap.size a4 T (T : List Int).length true ∧ Below w5.heap.size w5 wE ∧ Below w6.heap.size w6 wE ∧ wE.heap.size = w6.heap.size + 1) := ⟨by rw [hwE]; exact fresh_dec true hz HC4.out⟩
  clear hwE
  go_wp2_with fail
  refine (zzfixed_short _ a4 T _ true _ wE HD2.out.1 (.inl rfl)).mono ?_
  rintro e w7 ⟨rfl, h1, h2⟩
  have HAt2 := Kept.mk h1
  have HL7 := Kept.mk h2
  clear h1 h2
  have HB57 : Kept (Below w5.heap.size w5 w7) := ⟨HD2.out.2.1.trans (HL7.out.below.mono HC4.out.below.size)⟩
  have HB7 : Kept (Below w.heap.size w w7) := ⟨HB5.out.trans (HB57.out.mono HB5.out.size)⟩
  have HEX : Kept (ByteRow w7 w7.heap.size a2 T) := ⟨HEX5.out.later HB57.out⟩
  have HAD1 := Kept.mk (HAt1.out.below HB57.out HLT.out)
  have HR1 := Kept.mk (HAD1.out.row.below (Below.refl _ _) (Nat.le_trans (Nat.le_of_lt HLT.out) HB57.out.size))
  have HR2 := Kept.mk (HAt2.out.row.below (Below.refl _ _) (show w6.heap.size ≤ w7.heap.size by rw [HL7.out.size, HD2.out.2.2.2]; omega))
  go_wp2_with fail
  refine (short_any _ _ _ _ _ _ HAD1.out).mono ?_
  rintro e9 w9 ⟨rfl, rfl⟩
  go_wp2_with fail
  refine (short_any _ _ _ _ _ _ HAt2.out).mono ?_
  rintro e9 w9 ⟨rfl, rfl⟩
  go_wp2_with fail
  refine (rest_any _ _ _ _ _ _ HAD1.out).mono ?_
  rintro e9 w9 ⟨rfl, rfl⟩
  go_wp2_with fail
  refine (rest_any _ _ _ _ _ _ HAt2.out).mono ?_
  rintro e9 w9 ⟨rfl, rfl⟩
  have heq := fun W => Lib.run_eql_slice_nil (P := Try.prog) W 22 5 none 0 0 0 0 Try.underlying22
  rcases HSH2.out with ⟨rfl, rfl⟩ | ⟨g, rfl⟩
  · go_wp2_with fail
    refine (same_val _ _ _ _ [] [] _ _ w7 w7.heap.size rfl rfl (.inl rfl) (.inl rfl) (by simp) rfl).mono ?_
    rintro e9 w9 ⟨rfl, q, rfl⟩
    go_wp2_with fail
    refine (same_val _ _ _ _ [] [] _ _ _ w7.heap.size rfl rfl (.inl rfl) (.inl rfl) (by simp) rfl).mono ?_
    rintro e9 w9 ⟨rfl, q2, rfl⟩
    go_wp2_with fail
    go_ret
    exact ⟨rfl, below_drewN HB7.out _⟩
  · go_wp2_with fail
    refine (same_val _ _ _ _ T T _ _ w7 w7.heap.size rfl rfl HR1.out HEX.out hz rfl).mono ?_
    rintro e9 w9 ⟨rfl, q, rfl⟩
    go_wp2_with fail
    refine (same_val _ _ _ _ T T _ _ _ w7.heap.size rfl rfl (HR2.out.drewN q) (HEX.out.drewN q) hz rfl).mono ?_
    rintro e9 w9 ⟨rfl, q2, rfl⟩
    go_wp2_with fail
    go_ret
    exact ⟨rfl, below_drewN HB7.out _⟩

set_option maxRecDepth 100000 in
set_option maxHeartbeats 4000000 in
theorem then_nil (a : Option Addr) (cap : Nat) (n : Int) (hn0 : 0 ≤ n) (hn1 : n ≤ 18446744073709551614) (w : World) (hr : ByteRow w w.heap.size a ([] : List Int)) (_hnl : a = none → ([] : List Int) = []) (hz : (([] : List Int) : List Int).length ≤ 1048576) :
    Calls Try.prog 4 #[.slice a (([] : List Int) : List Int).length cap, .bool false, .int .u64 n] w fun e w' => e = .returned (.bool true) ∧ Below w.heap.size w w' := by
  have HR := Kept.mk hr
  clear hr _hnl
  go_enter Try.func4, Try.ntmps4
  go_wp2_with (first | (go_at_call 12; go_in) | fail)
  refine (clone_any a ([] : List Int) cap w HR.out (fun _ => rfl) hz).mono ?_
  rintro e w1 ⟨a1, rfl, hc1⟩
  have HC1 := Kept.mk hc1
  clear hc1
  go_wp2_with fail
  refine (clone_any a1 ([] : List Int) _ w1 HC1.out.row (fun _ => rfl) hz).mono ?_
  rintro e w2 ⟨a2, rfl, hc2⟩
  have HC2 := Kept.mk hc2
  have HA1 := Kept.mk (HC1.out.row.later hc2.below)
  clear hc2
  go_wp2_with fail
  refine (clone_any a1 ([] : List Int) _ w2 HA1.out (fun _ => rfl) hz).mono ?_
  rintro e w3 ⟨a3, rfl, hc3⟩
  have HC3 := Kept.mk hc3
  clear hc3
  go_wp2_with fail
  refine (new_any a3 _ _ false w3).mono ?_
  rintro e wD ⟨rfl, hwD⟩
  have HD1 : Kept (At wD w3.heap.size a3 ([] : List Int) (([] : List Int) : List Int).length false ∧ Below w2.heap.size w2 wD ∧ Below w3.heap.size w3 wD ∧ wD.heap.size = w3.heap.size + 1) := ⟨by rw [hwD]; exact fresh_dec false hz HC3.out⟩
  clear hwD
  go_wp2_with fail
  refine (zzbool_short _ a3 [] _ false wD HD1.out.1 (.inr rfl)).mono ?_
  rintro e w4 ⟨rfl, h1, h2⟩
  have HAt0 := Kept.mk h1
  have HL4 := Kept.mk h2
  clear h1 h2
  go_wp2_with fail
  refine (zzfixed_short _ a3 [] _ true n w4 HAt0.out (.inl rfl)).mono ?_
  rintro e w5 ⟨rfl, h1, h2⟩
  have HAt1 := Kept.mk h1
  have HL5 := Kept.mk (HL4.out.trans h2)
  clear h1 h2 HAt0 HL4
  -- the second decoder
  have HEX5 : Kept (ByteRow w5 w5.heap.size a2 ([] : List Int)) := ⟨(HC2.out.row.later HC3.out.below).below ((HD1.out.2.2.1).trans HL5.out.below) (by rw [HL5.out.size, HD1.out.2.2.2]; omega)⟩
  have HA15 : Kept (ByteRow w5 w5.heap.size a1 ([] : List Int)) := ⟨(HA1.out.later HC3.out.below).below ((HD1.out.2.2.1).trans HL5.out.below) (by rw [HL5.out.size, HD1.out.2.2.2]; omega)⟩
  have HB5 : Kept (Below w.heap.size w w5) := ⟨((HC1.out.below.trans (HC2.out.below.mono HC1.out.below.size)).trans (HD1.out.2.1.mono (Nat.le_trans HC1.out.below.size HC2.out.below.size))).trans (HL5.out.below.mono (Nat.le_trans HC1.out.below.size (Nat.le_trans HC2.out.below.size HC3.out.below.size)))⟩
  have HLT : Kept (w3.heap.size < w5.heap.size) := ⟨by rw [HL5.out.size, HD1.out.2.2.2]; omega⟩
  have HSH2 := Kept.mk HC2.out.shape
  clear HD1 HC1 HC2 HC3 HA1 HL5
  go_wp2_with fail
  refine (clone_any a1 ([] : List Int) _ w5 HA15.out (fun _ => rfl) hz).mono ?_
  rintro e w6 ⟨a4, rfl, hc4⟩
  have HC4 := Kept.mk hc4
  clear hc4
  go_wp2_with fail
  refine (new_any a4 _ _ false w6).mono ?_
  rintro e wE ⟨rfl, hwE⟩
  have HD2 : Kept (At wE w6.heap.size a4 ([] : List Int) (([] : List Int) : List Int).length false ∧ Below w5.heap.size w5 wE ∧ Below w6.heap.size w6 wE ∧ wE.heap.size = w6.heap.size + 1) := ⟨by rw [hwE]; exact fresh_dec false hz HC4.out⟩
  clear hwE
  go_wp2_with fail
  refine (zzfixed_short _ a4 [] _ false _ wE HD2.out.1 (.inr (by simp; omega))).mono ?_
  rintro e w7 ⟨rfl, h1, h2⟩
  have HAt2 := Kept.mk h1
  have HL7 := Kept.mk h2
  clear h1 h2
  have HB57 : Kept (Below w5.heap.size w5 w7) := ⟨HD2.out.2.1.trans (HL7.out.below.mono HC4.out.below.size)⟩
  have HB7 : Kept (Below w.heap.size w w7) := ⟨HB5.out.trans (HB57.out.mono HB5.out.size)⟩
  have HEX : Kept (ByteRow w7 w7.heap.size a2 ([] : List Int)) := ⟨HEX5.out.later HB57.out⟩
  have HAD1 := Kept.mk (HAt1.out.below HB57.out HLT.out)
  have HR1 := Kept.mk (HAD1.out.row.below (Below.refl _ _) (Nat.le_trans (Nat.le_of_lt HLT.out) HB57.out.size))
  have HR2 := Kept.mk (HAt2.out.row.below (Below.refl _ _) (show w6.heap.size ≤ w7.heap.size by rw [HL7.out.size, HD2.out.2.2.2]; omega))
  go_wp2_with fail
  refine (short_any _ _ _ _ _ _ HAD1.out).mono ?_
  rintro e9 w9 ⟨rfl, rfl⟩
  go_wp2_with fail
  refine (short_any _ _ _ _ _ _ HAt2.out).mono ?_
  rintro e9 w9 ⟨rfl, rfl⟩
  go_wp2_with fail
  refine (rest_any _ _ _ _ _ _ HAD1.out).mono ?_
  rintro e9 w9 ⟨rfl, rfl⟩
  go_wp2_with fail
  refine (rest_any _ _ _ _ _ _ HAt2.out).mono ?_
  rintro e9 w9 ⟨rfl, rfl⟩
  have heq := fun W => Lib.run_eql_slice_nil (P := Try.prog) W 22 5 none 0 0 0 0 Try.underlying22
  rcases HSH2.out with ⟨rfl, _⟩ | ⟨g, rfl⟩
  all_goals
    go_wp2_with fail
    refine (same_val _ _ _ _ [] [] _ _ w7 w7.heap.size rfl rfl (.inl rfl) (.inl rfl) (by simp) rfl).mono ?_
    rintro e9 w9 ⟨rfl, q, rfl⟩
    go_wp2_with fail
    refine (same_val _ _ _ _ [] [] _ _ _ w7.heap.size rfl rfl (.inl rfl) (.inl rfl) (by simp) rfl).mono ?_
    rintro e9 w9 ⟨rfl, q2, rfl⟩
    go_wp2_with fail
    go_ret
    exact ⟨rfl, below_drewN HB7.out _⟩

set_option maxRecDepth 100000 in
set_option maxHeartbeats 4000000 in
theorem then_past (a : Option Addr) (cap : Nat) (T : List Int) (c : Int) (r : List Int) (hT : T = c :: r) (n : Int) (hn0 : 0 ≤ n) (hn1 : n ≤ 18446744073709551614) (hle : (T.length : Int) ≤ n) (w : World) (hr : ByteRow w w.heap.size a T) (hnl : a = none → T = []) (hz : (T : List Int).length ≤ 1048576) :
    Calls Try.prog 4 #[.slice a (T : List Int).length cap, .bool false, .int .u64 n] w fun e w' => e = .returned (.bool true) ∧ Below w.heap.size w w' := by
  have HR := Kept.mk hr
  have HNL := Kept.mk hnl
  clear hr hnl
  have HT := Kept.mk hT
  have HRL : Kept (T.length = r.length + 1) := ⟨by rw [hT]; simp⟩
  have hpos : 0 < T.length := by rw [hT]; simp
  have hpos' : (0 : Int) < (T.length : Int) := by omega
  clear hT
  go_enter Try.func4, Try.ntmps4
  go_wp2_with (first | (go_at_call 12; go_in) | fail)
  refine (clone_any a T cap w HR.out HNL.out hz).mono ?_
  rintro e w1 ⟨a1, rfl, hc1⟩
  have HC1 := Kept.mk hc1
  clear hc1
  go_wp2_with fail
  refine (clone_any a1 T _ w1 HC1.out.row HC1.out.nil_of hz).mono ?_
  rintro e w2 ⟨a2, rfl, hc2⟩
  have HC2 := Kept.mk hc2
  have HA1 := Kept.mk (HC1.out.row.later hc2.below)
  clear hc2
  go_wp2_with fail
  refine (clone_any a1 T _ w2 HA1.out HC1.out.nil_of hz).mono ?_
  rintro e w3 ⟨a3, rfl, hc3⟩
  have HC3 := Kept.mk hc3
  clear hc3
  go_wp2_with fail
  refine (new_any a3 _ _ false w3).mono ?_
  rintro e wD ⟨rfl, hwD⟩
  have HD1 : Kept (At wD w3.heap.size a3 T (T : List Int).length false ∧ Below w2.heap.size w2 wD ∧ Below w3.heap.size w3 wD ∧ wD.heap.size = w3.heap.size + 1) := ⟨by rw [hwD]; exact fresh_dec false hz HC3.out⟩
  clear hwD
  go_wp2_with fail
  obtain ⟨g3, hg3⟩ : ∃ g, a3 = some ⟨g, 0, none⟩ := by
    rcases HC3.out.shape with ⟨_, h9⟩ | h9
    · rw [HT.out] at h9; cases h9
    · exact h9
  subst hg3
  have hat9 : At wD w3.heap.size (some ⟨g3, 0, none⟩) (c :: r) T.length false := by rw [← HT.out]; exact HD1.out.1
  refine (zzbool_ok _ g3 0 c r _ wD hat9).mono ?_
  rintro e w4 ⟨rfl, ⟨off4, cap4, h1⟩, h2⟩
  have HAt0 := Kept.mk h1
  have HL4 := Kept.mk h2
  clear h1 h2 hat9
  go_wp2_with fail
  refine (zzfixed_short _ (some ⟨g3, off4, none⟩) r _ false n w4 HAt0.out (.inr (by have h9 := HRL.out; omega))).mono ?_
  rintro e w5 ⟨rfl, h1, h2⟩
  have HAt1 := Kept.mk h1
  have HL5 := Kept.mk (HL4.out.trans h2)
  clear h1 h2 HAt0 HL4
  -- the second decoder
  have HEX5 : Kept (ByteRow w5 w5.heap.size a2 T) := ⟨(HC2.out.row.later HC3.out.below).below ((HD1.out.2.2.1).trans HL5.out.below) (by rw [HL5.out.size, HD1.out.2.2.2]; omega)⟩
  have HA15 : Kept (ByteRow w5 w5.heap.size a1 T) := ⟨(HA1.out.later HC3.out.below).below ((HD1.out.2.2.1).trans HL5.out.below) (by rw [HL5.out.size, HD1.out.2.2.2]; omega)⟩
  have HB5 : Kept (Below w.heap.size w w5) := ⟨((HC1.out.below.trans (HC2.out.below.mono HC1.out.below.size)).trans (HD1.out.2.1.mono (Nat.le_trans HC1.out.below.size HC2.out.below.size))).trans (HL5.out.below.mono (Nat.le_trans HC1.out.below.size (Nat.le_trans HC2.out.below.size HC3.out.below.size)))⟩
  have HLT : Kept (w3.heap.size < w5.heap.size) := ⟨by rw [HL5.out.size, HD1.out.2.2.2]; omega⟩
  have HN1 := Kept.mk HC1.out.nil_of
  have HSH2 := Kept.mk HC2.out.shape
  clear HD1 HC1 HC2 HC3 HA1 HL5
  go_wp2_with fail
  refine (clone_any a1 T _ w5 HA15.out HN1.out hz).mono ?_
  rintro e w6 ⟨a4, rfl, hc4⟩
  have HC4 := Kept.mk hc4
  clear hc4
  go_wp2_with fail
  refine (new_any a4 _ _ false w6).mono ?_
  rintro e wE ⟨rfl, hwE⟩
  have HD2 : Kept (At wE w6.heap.size a4 T (T : List Int).length false ∧ Below w5.heap.size w5 wE ∧ Below w6.heap.size w6 wE ∧ wE.heap.size = w6.heap.size + 1) := ⟨by rw [hwE]; exact fresh_dec false hz HC4.out⟩
  clear hwE
  go_wp2_with fail
  refine (zzfixed_short _ a4 T _ false _ wE HD2.out.1 (.inr (by omega))).mono ?_
  rintro e w7 ⟨rfl, h1, h2⟩
  have HAt2 := Kept.mk h1
  have HL7 := Kept.mk h2
  clear h1 h2
  have HB57 : Kept (Below w5.heap.size w5 w7) := ⟨HD2.out.2.1.trans (HL7.out.below.mono HC4.out.below.size)⟩
  have HB7 : Kept (Below w.heap.size w w7) := ⟨HB5.out.trans (HB57.out.mono HB5.out.size)⟩
  have HEX : Kept (ByteRow w7 w7.heap.size a2 T) := ⟨HEX5.out.later HB57.out⟩
  have HAD1 := Kept.mk (HAt1.out.below HB57.out HLT.out)
  have HR1 := Kept.mk (HAD1.out.row.below (Below.refl _ _) (Nat.le_trans (Nat.le_of_lt HLT.out) HB57.out.size))
  have HR2 := Kept.mk (HAt2.out.row.below (Below.refl _ _) (show w6.heap.size ≤ w7.heap.size by rw [HL7.out.size, HD2.out.2.2.2]; omega))
  go_wp2_with fail
  refine (short_any _ _ _ _ _ _ HAD1.out).mono ?_
  rintro e9 w9 ⟨rfl, rfl⟩
  go_wp2_with fail
  refine (short_any _ _ _ _ _ _ HAt2.out).mono ?_
  rintro e9 w9 ⟨rfl, rfl⟩
  go_wp2_with fail
  refine (rest_any _ _ _ _ _ _ HAD1.out).mono ?_
  rintro e9 w9 ⟨rfl, rfl⟩
  go_wp2_with fail
  refine (rest_any _ _ _ _ _ _ HAt2.out).mono ?_
  rintro e9 w9 ⟨rfl, rfl⟩
  have heq := fun W => Lib.run_eql_slice_nil (P := Try.prog) W 22 5 none 0 0 0 0 Try.underlying22
  obtain ⟨g, hg⟩ : ∃ g, a2 = some ⟨g, 0, none⟩ := by
    rcases HSH2.out with ⟨_, h9⟩ | h9
    · rw [HT.out] at h9; cases h9
    · exact h9
  subst hg
  have hcell : w7.cell? ⟨g, 0, none⟩ = some (.int .u8 c) := by
    obtain ⟨b9, o9, h8, h9⟩ := HEX.out.at (k := 0) hpos
    simp only [Option.some.injEq, Addr.mk.injEq, and_true] at h8
    obtain ⟨rfl, rfl⟩ := h8
    rw [HT.out] at h9
    exact h9
  have HEX1 : Kept (ByteRow w7 w7.heap.size (some ⟨g, 1, none⟩) r) := ⟨by have h9 := HEX.out.drop 1; rw [HT.out] at h9; exact h9⟩
  by_cases hone : T.length = 1
  · have HONE := Kept.mk hone
    have HRN : Kept (r = []) := ⟨List.eq_nil_of_length_eq_zero (by have h9 := HRL.out; omega)⟩
    go_wp2_with fail
    refine (same_val _ _ _ _ r r _ _ w7 w7.heap.size rfl (by rw [HRN.out]; rfl) HR1.out (.inl HRN.out) (by rw [HRN.out]; simp) rfl).mono ?_
    rintro e9 w9 ⟨rfl, q, rfl⟩
    go_wp2_with fail
    refine (same_val _ _ _ _ T T _ _ _ w7.heap.size (by first | exact HONE.out.symm | rfl) (by first | exact HONE.out.symm | rfl) (HR2.out.drewN q) (HEX.out.drewN q) hz rfl).mono ?_
    rintro e9 w9 ⟨rfl, q2, rfl⟩
    go_wp2_with fail
    go_ret
    exact ⟨rfl, below_drewN HB7.out _⟩
  · go_wp2_with fail
    refine (same_val _ _ _ _ r r _ _ w7 w7.heap.size rfl (by have h9 := HRL.out; omega) HR1.out HEX1.out (by have h9 := HRL.out; omega) rfl).mono ?_
    rintro e9 w9 ⟨rfl, q, rfl⟩
    go_wp2_with fail
    refine (same_val _ _ _ _ T T _ _ _ w7.heap.size rfl rfl (HR2.out.drewN q) (HEX.out.drewN q) hz rfl).mono ?_
    rintro e9 w9 ⟨rfl, q2, rfl⟩
    go_wp2_with fail
    go_ret
    exact ⟨rfl, below_drewN HB7.out _⟩

set_option maxRecDepth 100000 in
set_option maxHeartbeats 4000000 in
theorem then_in (a : Option Addr) (cap : Nat) (T : List Int) (c : Int) (r : List Int) (hT : T = c :: r) (n : Nat) (hlt : n < T.length) (w : World) (hr : ByteRow w w.heap.size a T) (hnl : a = none → T = []) (hz : (T : List Int).length ≤ 1048576) :
    Calls Try.prog 4 #[.slice a (T : List Int).length cap, .bool false, .int .u64 (n : Int)] w fun e w' => e = .returned (.bool true) ∧ Below w.heap.size w w' := by
  have HR := Kept.mk hr
  have HNL := Kept.mk hnl
  clear hr hnl
  have HT := Kept.mk hT
  have HRL : Kept (T.length = r.length + 1) := ⟨by rw [hT]; simp⟩
  have hpos : 0 < T.length := by rw [hT]; simp
  have hpos' : (0 : Int) < (T.length : Int) := by omega
  clear hT
  have hlt' : (n : Int) < (T.length : Int) := by omega
  go_enter Try.func4, Try.ntmps4
  go_wp2_with (first | (go_at_call 12; go_in) | fail)
  refine (clone_any a T cap w HR.out HNL.out hz).mono ?_
  rintro e w1 ⟨a1, rfl, hc1⟩
  have HC1 := Kept.mk hc1
  clear hc1
  go_wp2_with fail
  refine (clone_any a1 T _ w1 HC1.out.row HC1.out.nil_of hz).mono ?_
  rintro e w2 ⟨a2, rfl, hc2⟩
  have HC2 := Kept.mk hc2
  have HA1 := Kept.mk (HC1.out.row.later hc2.below)
  clear hc2
  go_wp2_with fail
  refine (clone_any a1 T _ w2 HA1.out HC1.out.nil_of hz).mono ?_
  rintro e w3 ⟨a3, rfl, hc3⟩
  have HC3 := Kept.mk hc3
  clear hc3
  go_wp2_with fail
  refine (new_any a3 _ _ false w3).mono ?_
  rintro e wD ⟨rfl, hwD⟩
  have HD1 : Kept (At wD w3.heap.size a3 T (T : List Int).length false ∧ Below w2.heap.size w2 wD ∧ Below w3.heap.size w3 wD ∧ wD.heap.size = w3.heap.size + 1) := ⟨by rw [hwD]; exact fresh_dec false hz HC3.out⟩
  clear hwD
  go_wp2_with fail
  obtain ⟨g3, hg3⟩ : ∃ g, a3 = some ⟨g, 0, none⟩ := by
    rcases HC3.out.shape with ⟨_, h9⟩ | h9
    · rw [HT.out] at h9; cases h9
    · exact h9
  subst hg3
  have hat9 : At wD w3.heap.size (some ⟨g3, 0, none⟩) (c :: r) T.length false := by rw [← HT.out]; exact HD1.out.1
  refine (zzbool_ok _ g3 0 c r _ wD hat9).mono ?_
  rintro e w4 ⟨rfl, ⟨off4, cap4, h1⟩, h2⟩
  have HAt0 := Kept.mk h1
  have HL4 := Kept.mk h2
  clear h1 h2 hat9
  go_wp2_with fail
  refine (zzfixed_some _ g3 off4 r _ n w4 HAt0.out (by have h9 := HRL.out; omega)).mono ?_
  rintro e w5 ⟨rfl, ⟨off5, cap5, h1⟩, h2⟩
  have HAt1 := Kept.mk h1
  have HL5 := Kept.mk (HL4.out.trans h2)
  have HVL : Kept (Left w4 w5 w3.heap.size) := ⟨h2⟩
  have HV5 : Kept (ByteRow w5 w5.heap.size (some ⟨g3, off4, none⟩) (r.take n)) := ⟨(HAt0.out.row.take n).below h2.below (by rw [h2.size, HL4.out.size, HD1.out.2.2.2]; omega)⟩
  clear h1 h2 HAt0 HL4
  -- the second decoder
  have HEX5 : Kept (ByteRow w5 w5.heap.size a2 T) := ⟨(HC2.out.row.later HC3.out.below).below ((HD1.out.2.2.1).trans HL5.out.below) (by rw [HL5.out.size, HD1.out.2.2.2]; omega)⟩
  have HA15 : Kept (ByteRow w5 w5.heap.size a1 T) := ⟨(HA1.out.later HC3.out.below).below ((HD1.out.2.2.1).trans HL5.out.below) (by rw [HL5.out.size, HD1.out.2.2.2]; omega)⟩
  have HB5 : Kept (Below w.heap.size w w5) := ⟨((HC1.out.below.trans (HC2.out.below.mono HC1.out.below.size)).trans (HD1.out.2.1.mono (Nat.le_trans HC1.out.below.size HC2.out.below.size))).trans (HL5.out.below.mono (Nat.le_trans HC1.out.below.size (Nat.le_trans HC2.out.below.size HC3.out.below.size)))⟩
  have HLT : Kept (w3.heap.size < w5.heap.size) := ⟨by rw [HL5.out.size, HD1.out.2.2.2]; omega⟩
  have HN1 := Kept.mk HC1.out.nil_of
  have HSH2 := Kept.mk HC2.out.shape
  clear HD1 HC1 HC2 HC3 HA1 HL5
  go_wp2_with fail
  refine (clone_any a1 T _ w5 HA15.out HN1.out hz).mono ?_
  rintro e w6 ⟨a4, rfl, hc4⟩
  have HC4 := Kept.mk hc4
  clear hc4
  go_wp2_with fail
  refine (new_any a4 _ _ false w6).mono ?_
  rintro e wE ⟨rfl, hwE⟩
  have HD2 : Kept (At wE w6.heap.size a4 T (T : List Int).length false ∧ Below w5.heap.size w5 wE ∧ Below w6.heap.size w6 wE ∧ wE.heap.size = w6.heap.size + 1) := ⟨by rw [hwE]; exact fresh_dec false hz HC4.out⟩
  clear hwE
  go_wp2_with fail
  obtain ⟨g4, hg4⟩ : ∃ g, a4 = some ⟨g, 0, none⟩ := by
    rcases HC4.out.shape with ⟨_, h9⟩ | h9
    · rw [HT.out] at h9; cases h9
    · exact h9
  subst hg4
  have hcast : ((n : Int) + 1) = ((n + 1 : Nat) : Int) := by omega
  rw [hcast]
  clear hcast
  refine (zzfixed_some _ g4 0 T _ (n + 1) wE HD2.out.1 (by omega)).mono ?_
  rintro e w7 ⟨rfl, ⟨off7, cap7, h1⟩, h2⟩
  have HAt2 := Kept.mk h1
  have HL7 := Kept.mk h2
  have HW7 : Kept (ByteRow w7 w7.heap.size (some ⟨g4, 0, none⟩) (T.take (n + 1))) := ⟨(HD2.out.1.row.take (n + 1)).below h2.below (by rw [h2.size, HD2.out.2.2.2]; omega)⟩
  clear h1 h2
  have HB57 : Kept (Below w5.heap.size w5 w7) := ⟨HD2.out.2.1.trans (HL7.out.below.mono HC4.out.below.size)⟩
  have HB7 : Kept (Below w.heap.size w w7) := ⟨HB5.out.trans (HB57.out.mono HB5.out.size)⟩
  have HEX : Kept (ByteRow w7 w7.heap.size a2 T) := ⟨HEX5.out.later HB57.out⟩
  have HAD1 := Kept.mk (HAt1.out.below HB57.out HLT.out)
  have HR1 := Kept.mk (HAD1.out.row.below (Below.refl _ _) (Nat.le_trans (Nat.le_of_lt HLT.out) HB57.out.size))
  have HR2 := Kept.mk (HAt2.out.row.below (Below.refl _ _) (show w6.heap.size ≤ w7.heap.size by rw [HL7.out.size, HD2.out.2.2.2]; omega))
  go_wp2_with fail
  refine (short_any _ _ _ _ _ _ HAD1.out).mono ?_
  rintro e9 w9 ⟨rfl, rfl⟩
  go_wp2_with fail
  refine (short_any _ _ _ _ _ _ HAt2.out).mono ?_
  rintro e9 w9 ⟨rfl, rfl⟩
  go_wp2_with fail
  refine (rest_any _ _ _ _ _ _ HAD1.out).mono ?_
  rintro e9 w9 ⟨rfl, rfl⟩
  go_wp2_with fail
  refine (rest_any _ _ _ _ _ _ HAt2.out).mono ?_
  rintro e9 w9 ⟨rfl, rfl⟩
  obtain ⟨g, hg⟩ : ∃ g, a2 = some ⟨g, 0, none⟩ := by
    rcases HSH2.out with ⟨_, h9⟩ | h9
    · rw [HT.out] at h9; cases h9
    · exact h9
  subst hg
  have hcell : w7.cell? ⟨g, 0, none⟩ = some (.int .u8 c) := by
    obtain ⟨b9, o9, h8, h9⟩ := HEX.out.at (k := 0) hpos
    simp only [Option.some.injEq, Addr.mk.injEq, and_true] at h8
    obtain ⟨rfl, rfl⟩ := h8
    rw [HT.out] at h9
    exact h9
  have HEX1 : Kept (ByteRow w7 w7.heap.size (some ⟨g, 1, none⟩) r) := ⟨by have h9 := HEX.out.drop 1; rw [HT.out] at h9; exact h9⟩
  have HV7 := Kept.mk (HV5.out.later HB57.out)
  have HRT : Kept (r.drop n = T.drop (n + 1)) := ⟨by rw [HT.out]; rfl⟩
  have hcellW : w7.cell? ⟨g4, 0, none⟩ = some (.int .u8 c) := by
    obtain ⟨b9, o9, h8, h9⟩ := HW7.out.at (k := 0) (by rw [List.length_take]; omega)
    simp only [Option.some.injEq, Addr.mk.injEq, and_true] at h8
    obtain ⟨rfl, rfl⟩ := h8
    rw [HT.out] at h9
    exact h9
  have HET : Kept (ByteRow w7 w7.heap.size (some ⟨g, 0, none⟩) (T.take (n + 1))) := ⟨HEX.out.take (n + 1)⟩
  have HE1T : Kept (ByteRow w7 w7.heap.size (some ⟨g, 1, none⟩) (r.take n)) := ⟨HEX1.out.take n⟩
  have HED : Kept (ByteRow w7 w7.heap.size (some ⟨g, n + 1, none⟩) (T.drop (n + 1))) := ⟨by have h9 := HEX.out.drop (n + 1); rw [Nat.zero_add] at h9; exact h9⟩
  have HW1 : Kept (ByteRow w7 w7.heap.size (some ⟨g4, 1, none⟩) (r.take n)) := ⟨by have h9 := HW7.out.drop 1; rw [HT.out] at h9; exact h9⟩
  replace HR1 : Kept (ByteRow w7 w7.heap.size (some ⟨g3, off5, none⟩) (T.drop (n + 1))) := ⟨by rw [← HRT.out]; exact HR1.out⟩
  by_cases hone : T.length = 1
  · obtain rfl : n = 0 := by omega
    have HONE := Kept.mk hone
    have HRN : Kept (r = []) := ⟨List.eq_nil_of_length_eq_zero (by have h9 := HRL.out; omega)⟩
    have HTN : Kept (T.drop 1 = []) := ⟨List.drop_eq_nil_of_le (by omega)⟩
    go_wp2_with fail
    refine (same_val _ _ _ _ (T.take (0 + 1)) (T.take (0 + 1)) _ _ _ w7.heap.size (by have h9 := HRL.out; have h8 := HONE.out; have h7 := List.length_take (i := 0 + 1) (l := T); have h6 := List.length_take (i := 0) (l := r); have h5 := List.length_drop (i := 0 + 1) (l := T); omega) (by have h9 := HRL.out; have h8 := HONE.out; have h7 := List.length_take (i := 0 + 1) (l := T); have h6 := List.length_take (i := 0) (l := r); have h5 := List.length_drop (i := 0 + 1) (l := T); omega) HW7.out HET.out (by have h9 := HRL.out; have h8 := HONE.out; have h7 := List.length_take (i := 0 + 1) (l := T); have h6 := List.length_take (i := 0) (l := r); have h5 := List.length_drop (i := 0 + 1) (l := T); omega) rfl).mono ?_
    rintro e9 w9 ⟨rfl, q, rfl⟩
    go_wp2_with fail
    refine (same_val _ _ _ _ (r.take 0) (r.take 0) _ _ _ w7.heap.size (by have h9 := HRL.out; have h8 := HONE.out; have h7 := List.length_take (i := 0 + 1) (l := T); have h6 := List.length_take (i := 0) (l := r); have h5 := List.length_drop (i := 0 + 1) (l := T); omega) (by have h9 := HRL.out; have h8 := HONE.out; have h7 := List.length_take (i := 0 + 1) (l := T); have h6 := List.length_take (i := 0) (l := r); have h5 := List.length_drop (i := 0 + 1) (l := T); omega) (HV7.out.drewN _) (.inl (by rw [HRN.out]; rfl)) (by have h9 := HRL.out; have h8 := HONE.out; have h7 := List.length_take (i := 0 + 1) (l := T); have h6 := List.length_take (i := 0) (l := r); have h5 := List.length_drop (i := 0 + 1) (l := T); omega) rfl).mono ?_
    rintro e9 w9 ⟨rfl, q, rfl⟩
    go_wp2_with fail
    refine (same_val _ _ _ _ (T.drop (0 + 1)) (T.drop (0 + 1)) _ _ _ w7.heap.size (by have h9 := HRL.out; have h8 := HONE.out; have h7 := List.length_take (i := 0 + 1) (l := T); have h6 := List.length_take (i := 0) (l := r); have h5 := List.length_drop (i := 0 + 1) (l := T); omega) (by have h9 := HRL.out; have h8 := HONE.out; have h7 := List.length_take (i := 0 + 1) (l := T); have h6 := List.length_take (i := 0) (l := r); have h5 := List.length_drop (i := 0 + 1) (l := T); omega) (HR1.out.drewN _) (.inl HTN.out) (by have h9 := HRL.out; have h8 := HONE.out; have h7 := List.length_take (i := 0 + 1) (l := T); have h6 := List.length_take (i := 0) (l := r); have h5 := List.length_drop (i := 0 + 1) (l := T); omega) rfl).mono ?_
    rintro e9 w9 ⟨rfl, q, rfl⟩
    go_wp2_with fail
    refine (same_val _ _ _ _ (T.drop (0 + 1)) (T.drop (0 + 1)) _ _ _ w7.heap.size (by have h9 := HRL.out; have h8 := HONE.out; have h7 := List.length_take (i := 0 + 1) (l := T); have h6 := List.length_take (i := 0) (l := r); have h5 := List.length_drop (i := 0 + 1) (l := T); omega) (by have h9 := HRL.out; have h8 := HONE.out; have h7 := List.length_take (i := 0 + 1) (l := T); have h6 := List.length_take (i := 0) (l := r); have h5 := List.length_drop (i := 0 + 1) (l := T); omega) (HR2.out.drewN _) (.inl HTN.out) (by have h9 := HRL.out; have h8 := HONE.out; have h7 := List.length_take (i := 0 + 1) (l := T); have h6 := List.length_take (i := 0) (l := r); have h5 := List.length_drop (i := 0 + 1) (l := T); omega) rfl).mono ?_
    rintro e9 w9 ⟨rfl, q, rfl⟩
    go_wp2_with fail
    refine (same_val _ _ _ _ (r.take 0) (r.take 0) _ _ _ w7.heap.size (by have h9 := HRL.out; have h8 := HONE.out; have h7 := List.length_take (i := 0 + 1) (l := T); have h6 := List.length_take (i := 0) (l := r); have h5 := List.length_drop (i := 0 + 1) (l := T); omega) (by have h9 := HRL.out; have h8 := HONE.out; have h7 := List.length_take (i := 0 + 1) (l := T); have h6 := List.length_take (i := 0) (l := r); have h5 := List.length_drop (i := 0 + 1) (l := T); omega) (HV7.out.drewN _) (.inl (by rw [HRN.out]; rfl)) (by have h9 := HRL.out; have h8 := HONE.out; have h7 := List.length_take (i := 0 + 1) (l := T); have h6 := List.length_take (i := 0) (l := r); have h5 := List.length_drop (i := 0 + 1) (l := T); omega) rfl).mono ?_
    rintro e9 w9 ⟨rfl, q, rfl⟩
    go_wp2_with fail
    go_ret
    exact ⟨rfl, below_drewN HB7.out _⟩
  · by_cases hend : T.length = n + 1
    · have HEND := Kept.mk hend
      have HTN : Kept (T.drop (n + 1) = []) := ⟨List.drop_eq_nil_of_le (by omega)⟩
      go_wp2_with fail
      refine (same_val _ _ _ _ (T.take (n + 1)) (T.take (n + 1)) _ _ _ w7.heap.size (by have h9 := HRL.out; have h8 := HEND.out; have h7 := List.length_take (i := n + 1) (l := T); have h6 := List.length_take (i := n) (l := r); have h5 := List.length_drop (i := n + 1) (l := T); omega) (by have h9 := HRL.out; have h8 := HEND.out; have h7 := List.length_take (i := n + 1) (l := T); have h6 := List.length_take (i := n) (l := r); have h5 := List.length_drop (i := n + 1) (l := T); omega) HW7.out HET.out (by have h9 := HRL.out; have h8 := HEND.out; have h7 := List.length_take (i := n + 1) (l := T); have h6 := List.length_take (i := n) (l := r); have h5 := List.length_drop (i := n + 1) (l := T); omega) rfl).mono ?_
      rintro e9 w9 ⟨rfl, q, rfl⟩
      go_wp2_with fail
      refine (same_val _ _ _ _ (r.take n) (r.take n) _ _ _ w7.heap.size (by have h9 := HRL.out; have h8 := HEND.out; have h7 := List.length_take (i := n + 1) (l := T); have h6 := List.length_take (i := n) (l := r); have h5 := List.length_drop (i := n + 1) (l := T); omega) (by have h9 := HRL.out; have h8 := HEND.out; have h7 := List.length_take (i := n + 1) (l := T); have h6 := List.length_take (i := n) (l := r); have h5 := List.length_drop (i := n + 1) (l := T); omega) (HV7.out.drewN _) (HE1T.out.drewN _) (by have h9 := HRL.out; have h8 := HEND.out; have h7 := List.length_take (i := n + 1) (l := T); have h6 := List.length_take (i := n) (l := r); have h5 := List.length_drop (i := n + 1) (l := T); omega) rfl).mono ?_
      rintro e9 w9 ⟨rfl, q, rfl⟩
      go_wp2_with fail
      refine (same_val _ _ _ _ (T.drop (n + 1)) (T.drop (n + 1)) _ _ _ w7.heap.size (by have h9 := HRL.out; have h8 := HEND.out; have h7 := List.length_take (i := n + 1) (l := T); have h6 := List.length_take (i := n) (l := r); have h5 := List.length_drop (i := n + 1) (l := T); omega) (by have h9 := HRL.out; have h8 := HEND.out; have h7 := List.length_take (i := n + 1) (l := T); have h6 := List.length_take (i := n) (l := r); have h5 := List.length_drop (i := n + 1) (l := T); omega) (HR1.out.drewN _) (.inl HTN.out) (by have h9 := HRL.out; have h8 := HEND.out; have h7 := List.length_take (i := n + 1) (l := T); have h6 := List.length_take (i := n) (l := r); have h5 := List.length_drop (i := n + 1) (l := T); omega) rfl).mono ?_
      rintro e9 w9 ⟨rfl, q, rfl⟩
      go_wp2_with fail
      refine (same_val _ _ _ _ (T.drop (n + 1)) (T.drop (n + 1)) _ _ _ w7.heap.size (by have h9 := HRL.out; have h8 := HEND.out; have h7 := List.length_take (i := n + 1) (l := T); have h6 := List.length_take (i := n) (l := r); have h5 := List.length_drop (i := n + 1) (l := T); omega) (by have h9 := HRL.out; have h8 := HEND.out; have h7 := List.length_take (i := n + 1) (l := T); have h6 := List.length_take (i := n) (l := r); have h5 := List.length_drop (i := n + 1) (l := T); omega) (HR2.out.drewN _) (.inl HTN.out) (by have h9 := HRL.out; have h8 := HEND.out; have h7 := List.length_take (i := n + 1) (l := T); have h6 := List.length_take (i := n) (l := r); have h5 := List.length_drop (i := n + 1) (l := T); omega) rfl).mono ?_
      rintro e9 w9 ⟨rfl, q, rfl⟩
      go_wp2_with fail
      refine (same_val _ _ _ _ (r.take n) (r.take n) _ _ _ w7.heap.size (by have h9 := HRL.out; have h8 := HEND.out; have h7 := List.length_take (i := n + 1) (l := T); have h6 := List.length_take (i := n) (l := r); have h5 := List.length_drop (i := n + 1) (l := T); omega) (by have h9 := HRL.out; have h8 := HEND.out; have h7 := List.length_take (i := n + 1) (l := T); have h6 := List.length_take (i := n) (l := r); have h5 := List.length_drop (i := n + 1) (l := T); omega) (HV7.out.drewN _) (HW1.out.drewN _) (by have h9 := HRL.out; have h8 := HEND.out; have h7 := List.length_take (i := n + 1) (l := T); have h6 := List.length_take (i := n) (l := r); have h5 := List.length_drop (i := n + 1) (l := T); omega) rfl).mono ?_
      rintro e9 w9 ⟨rfl, q, rfl⟩
      go_wp2_with fail
      go_ret
      exact ⟨rfl, below_drewN HB7.out _⟩
    · have HKN : Kept (n + 1 ≤ T.length) := ⟨by omega⟩
      go_wp2_with fail
      refine (same_val _ _ _ _ (T.take (n + 1)) (T.take (n + 1)) _ _ _ w7.heap.size (by have h9 := HRL.out; have h8 := HKN.out; have h7 := List.length_take (i := n + 1) (l := T); have h6 := List.length_take (i := n) (l := r); have h5 := List.length_drop (i := n + 1) (l := T); omega) (by have h9 := HRL.out; have h8 := HKN.out; have h7 := List.length_take (i := n + 1) (l := T); have h6 := List.length_take (i := n) (l := r); have h5 := List.length_drop (i := n + 1) (l := T); omega) HW7.out HET.out (by have h9 := HRL.out; have h8 := HKN.out; have h7 := List.length_take (i := n + 1) (l := T); have h6 := List.length_take (i := n) (l := r); have h5 := List.length_drop (i := n + 1) (l := T); omega) rfl).mono ?_
      rintro e9 w9 ⟨rfl, q, rfl⟩
      go_wp2_with fail
      refine (same_val _ _ _ _ (r.take n) (r.take n) _ _ _ w7.heap.size (by have h9 := HRL.out; have h8 := HKN.out; have h7 := List.length_take (i := n + 1) (l := T); have h6 := List.length_take (i := n) (l := r); have h5 := List.length_drop (i := n + 1) (l := T); omega) (by have h9 := HRL.out; have h8 := HKN.out; have h7 := List.length_take (i := n + 1) (l := T); have h6 := List.length_take (i := n) (l := r); have h5 := List.length_drop (i := n + 1) (l := T); omega) (HV7.out.drewN _) (HE1T.out.drewN _) (by have h9 := HRL.out; have h8 := HKN.out; have h7 := List.length_take (i := n + 1) (l := T); have h6 := List.length_take (i := n) (l := r); have h5 := List.length_drop (i := n + 1) (l := T); omega) rfl).mono ?_
      rintro e9 w9 ⟨rfl, q, rfl⟩
      go_wp2_with fail
      refine (same_val _ _ _ _ (T.drop (n + 1)) (T.drop (n + 1)) _ _ _ w7.heap.size (by have h9 := HRL.out; have h8 := HKN.out; have h7 := List.length_take (i := n + 1) (l := T); have h6 := List.length_take (i := n) (l := r); have h5 := List.length_drop (i := n + 1) (l := T); omega) (by have h9 := HRL.out; have h8 := HKN.out; have h7 := List.length_take (i := n + 1) (l := T); have h6 := List.length_take (i := n) (l := r); have h5 := List.length_drop (i := n + 1) (l := T); omega) (HR1.out.drewN _) (HED.out.drewN _) (by have h9 := HRL.out; have h8 := HKN.out; have h7 := List.length_take (i := n + 1) (l := T); have h6 := List.length_take (i := n) (l := r); have h5 := List.length_drop (i := n + 1) (l := T); omega) rfl).mono ?_
      rintro e9 w9 ⟨rfl, q, rfl⟩
      go_wp2_with fail
      refine (same_val _ _ _ _ (T.drop (n + 1)) (T.drop (n + 1)) _ _ _ w7.heap.size (by have h9 := HRL.out; have h8 := HKN.out; have h7 := List.length_take (i := n + 1) (l := T); have h6 := List.length_take (i := n) (l := r); have h5 := List.length_drop (i := n + 1) (l := T); omega) (by have h9 := HRL.out; have h8 := HKN.out; have h7 := List.length_take (i := n + 1) (l := T); have h6 := List.length_take (i := n) (l := r); have h5 := List.length_drop (i := n + 1) (l := T); omega) (HR2.out.drewN _) (HED.out.drewN _) (by have h9 := HRL.out; have h8 := HKN.out; have h7 := List.length_take (i := n + 1) (l := T); have h6 := List.length_take (i := n) (l := r); have h5 := List.length_drop (i := n + 1) (l := T); omega) rfl).mono ?_
      rintro e9 w9 ⟨rfl, q, rfl⟩
      go_wp2_with fail
      refine (same_val _ _ _ _ (r.take n) (r.take n) _ _ _ w7.heap.size (by have h9 := HRL.out; have h8 := HKN.out; have h7 := List.length_take (i := n + 1) (l := T); have h6 := List.length_take (i := n) (l := r); have h5 := List.length_drop (i := n + 1) (l := T); omega) (by have h9 := HRL.out; have h8 := HKN.out; have h7 := List.length_take (i := n + 1) (l := T); have h6 := List.length_take (i := n) (l := r); have h5 := List.length_drop (i := n + 1) (l := T); omega) (HV7.out.drewN _) (HW1.out.drewN _) (by have h9 := HRL.out; have h8 := HKN.out; have h7 := List.length_take (i := n + 1) (l := T); have h6 := List.length_take (i := n) (l := r); have h5 := List.length_drop (i := n + 1) (l := T); omega) rfl).mono ?_
      rintro e9 w9 ⟨rfl, q, rfl⟩
      go_wp2_with fail
      go_ret
      exact ⟨rfl, below_drewN HB7.out _⟩

end Dec
end Go.Proofs.Qxb6618613a
