import Derived.Test.Qxb6618613aRows
import Derived.WalkKit
import Derived.WalkSpells
import Derived.WalkLawsBesides
import Derived.BigQuiet
import Derived.Deep.QuietTactic
import Derived.RegionTactic
namespace Go.Proofs.Qxb6618613a
open Go.RowKit
namespace Dec

/-- a fact kept from the walk, behind a structure -/
structure Kept (p : Prop) : Prop where
  out : p

/-- the slice at a, read in w, holds the bytes xs; they lie below block B -/
def ByteRow (w : World) (B : Nat) (a : Option Addr) (xs : List Int) : Prop :=
  xs = [] ∨ ∃ blk off, a = some ⟨blk, off, none⟩ ∧ blk < B ∧ ∀ i, i < xs.length → w.cell? ⟨blk, off + i, none⟩ = some (.int .u8 (xs.getD i 0))

theorem ByteRow.below {w w' : World} {B B' : Nat} {a : Option Addr} {xs : List Int} (h : ByteRow w B a xs) (hb : Below B w w') (hB : B ≤ B') : ByteRow w' B' a xs := by
  rcases h with h | ⟨blk, off, rfl, hlt, hc⟩
  · exact .inl h
  · refine .inr ⟨blk, off, rfl, by omega, fun i hi => ?_⟩
    rw [hb.cell (p := ⟨blk, off + i, none⟩) hlt]
    exact hc i hi

theorem ByteRow.later {w w' : World} {a : Option Addr} {xs : List Int} (h : ByteRow w w.heap.size a xs) (hb : Below w.heap.size w w') : ByteRow w' w'.heap.size a xs := h.below hb hb.size

theorem ByteRow.drewN {w : World} {B : Nat} {a : Option Addr} {xs : List Int} (h : ByteRow w B a xs) (n : Nat) : ByteRow (w.drewN n) B a xs :=
  h.below (below_drewN (Below.refl _ _) n) (Nat.le_refl _)

theorem ByteRow.drop {w : World} {B blk off : Nat} {xs : List Int} (h : ByteRow w B (some ⟨blk, off, none⟩) xs) (k : Nat) : ByteRow w B (some ⟨blk, off + k, none⟩) (xs.drop k) := by
  rcases h with rfl | ⟨blk', off', he, hb, hc⟩
  · exact .inl (by simp)
  · simp only [Option.some.injEq, Addr.mk.injEq, and_true] at he
    obtain ⟨rfl, rfl⟩ := he
    refine .inr ⟨_, _, rfl, hb, fun i hi => ?_⟩
    rw [List.length_drop] at hi
    have h1 := hc (k + i) (by omega)
    rw [← Nat.add_assoc] at h1
    rw [h1]
    simp only [List.getD]
    rw [List.getElem?_drop]

theorem ByteRow.take {w : World} {B : Nat} {a : Option Addr} {xs : List Int} (h : ByteRow w B a xs) (k : Nat) : ByteRow w B a (xs.take k) := by
  rcases h with rfl | ⟨blk, off, rfl, hb, hc⟩
  · exact .inl (by simp)
  · refine .inr ⟨_, _, rfl, hb, fun i hi => ?_⟩
    rw [List.length_take] at hi
    rw [hc i (by omega)]
    simp only [List.getD]
    rw [List.getElem?_take_of_lt (by omega)]

theorem ret_bool {a b : Bool} (h : a = b) : Ending.returned (.bool a) = .returned (.bool b) := by rw [h]

theorem ByteRow.at {w : World} {B : Nat} {a : Option Addr} {xs : List Int} (h : ByteRow w B a xs) {k : Nat} (hk : k < xs.length) :
    ∃ blk off, a = some ⟨blk, off, none⟩ ∧ w.cell? ⟨blk, off + k, none⟩ = some (.int .u8 (xs.getD k 0)) := by
  rcases h with h | ⟨blk, off, rfl, _, hc⟩
  · rw [h] at hk; simp at hk
  · exact ⟨blk, off, rfl, hc k hk⟩

theorem take_succ' (xs : List Int) (k : Nat) (hk : k < xs.length) : xs.take (k + 1) = xs.take k ++ [xs.getD k 0] := by
  rw [List.take_succ_eq_append_getElem hk]
  simp [List.getD, List.getElem?_eq_getElem hk]

set_option maxHeartbeats 400000 in
/-- bytesEq: are the bytes the same? -/
theorem same_any (a a2 : Option Addr) (xs ys : List Int) (cap cap2 : Nat) (w : World) (B : Nat) (hr : ByteRow w B a xs) (hr2 : ByteRow w B a2 ys) (hs : xs.length ≤ 1048576) (_hs2 : ys.length ≤ 1048576) :
    Calls Try.prog 10 #[.slice a xs.length cap, .slice a2 ys.length cap2] w fun e w' => e = .returned (.bool (decide (xs = ys))) ∧ ∃ q, w' = w.drewN q := by
  have HR : Kept (ByteRow w B a xs) := ⟨hr⟩
  have HR2 : Kept (ByteRow w B a2 ys) := ⟨hr2⟩
  clear hr hr2
  by_cases hlen : xs.length = ys.length
  · have HL : Kept (xs.length = ys.length) := ⟨hlen⟩
    have hl2 : ((xs.length : Int) != (ys.length : Int)) = false := by rw [hlen]; simp
    clear hlen
    go_enter Try.func10, Try.ntmps10
    go_wp2
    go_loopw [5] (fun i wr => ∃ k q : Nat, k ≤ xs.length ∧ i = .int .i64 k ∧ Kept (xs.take k = ys.take k) ∧ wr = w.drewN q) (fun i _ => xs.length - (intOf i).toNat)
    case atStart => exact ⟨0, 0, Nat.zero_le _, rfl, ⟨rfl⟩, rfl⟩
    case round =>
      obtain ⟨k, q, hk, rfl, HK, rfl⟩ := hrel
      by_cases hlt : k < xs.length
      · have hlt2 : k < ys.length := by rw [← HL.out]; exact hlt
        obtain ⟨blk, off, rfl, hc1⟩ := HR.out.at hlt
        obtain ⟨blk2, off2, rfl, hc2⟩ := HR2.out.at hlt2
        have HE : Kept (xs.getD k 0 = ys.getD k 0 → xs.take (k + 1) = ys.take (k + 1)) := ⟨fun h => by rw [take_succ' xs k hlt, take_succ' ys k hlt2, HK.out, h]⟩
        have HNE : Kept (xs.getD k 0 ≠ ys.getD k 0 → decide (xs = ys) = false) := ⟨fun h => decide_eq_false (fun e => h (by rw [e]))⟩
        generalize xs.getD k 0 = x at hc1 HE HNE
        generalize ys.getD k 0 = y at hc2 HE HNE
        have i1 : (k : Int) < (xs.length : Int) := by omega
        have i2 : (k : Int) < (ys.length : Int) := by omega
        by_cases hxy : x = y
        · have hb : (x != y) = false := by rw [hxy]; simp
          have HXY : Kept (x = y) := ⟨hxy⟩
          clear hxy
          go_wp2_with fail
          go_quiet (fail)
          go_wp2_with fail
          go_roundw
          case rel => exact ⟨k + 1, q + nq, by omega, by go_num, ⟨HE.out HXY.out⟩, by simp⟩
          case measure => simp [intOf]; omega
        · have hb : (x != y) = true := by rw [bne_iff_ne]; exact hxy
          have HXY : Kept (x ≠ y) := ⟨hxy⟩
          clear hxy
          go_wp2_with fail
          go_quiet (fail)
          go_wp2_with fail
          go_ret
          exact ⟨ret_bool (HNE.out HXY.out).symm, q + nq, by simp⟩
      · go_wp2_with fail
        go_ret
        have h1 := HK.out
        have h2 := HL.out
        rw [List.take_of_length_le (by omega), List.take_of_length_le (by omega)] at h1
        exact ⟨ret_bool (decide_eq_true h1).symm, _, rfl⟩
  · have hl2 : ((xs.length : Int) != (ys.length : Int)) = true := by rw [bne_iff_ne]; omega
    have HL : Kept (xs.length ≠ ys.length) := ⟨hlen⟩
    clear hlen
    go_enter Try.func10, Try.ntmps10
    go_wp2
    go_ret
    exact ⟨ret_bool (decide_eq_false (fun e => HL.out (by rw [e]))).symm, 0, rfl⟩

theorem same_val (a a2 : Option Addr) (len len2 : Nat) (xs ys : List Int) (cap cap2 : Nat) (w : World) (B : Nat) (hl : len = xs.length) (hl2 : len2 = ys.length) (hr : ByteRow w B a xs) (hr2 : ByteRow w B a2 ys) (hs : xs.length ≤ 1048576) (h : xs = ys) :
    Calls Try.prog 10 #[.slice a len cap, .slice a2 len2 cap2] w fun e w' => e = .returned (.bool true) ∧ ∃ q, w' = w.drewN q := by
  subst hl; subst hl2
  have := same_any a a2 xs ys cap cap2 w B hr hr2 hs (by rw [← h]; exact hs)
  rwa [decide_eq_true h] at this

/-- the decoder at block b stands at the bytes xs; sh: it was cut short -/
structure At (w : World) (b : Nat) (a : Option Addr) (xs : List Int) (cap : Nat) (sh : Bool) : Prop where
  rest : w.cell? ⟨b, 0, none⟩ = some (.slice a xs.length cap)
  short : w.cell? ⟨b, 1, none⟩ = some (.bool sh)
  fr : w.frozen? ⟨b, 0, none⟩ = false
  fs : w.frozen? ⟨b, 1, none⟩ = false
  row : ByteRow w b a xs
  len : xs.length ≤ cap
  small : xs.length ≤ 1048576

theorem ByteRow.setCell {w : World} {B : Nat} {a : Option Addr} {xs : List Int} (h : ByteRow w B a xs) (o : Nat) (v : Value) : ByteRow (w.setCell ⟨B, o, none⟩ v) B a xs := by
  rcases h with h | ⟨blk, off, rfl, hb, hc⟩
  · exact .inl h
  · refine .inr ⟨blk, off, rfl, hb, fun i hi => ?_⟩
    rw [World.cell?_setCell_other _ _ _ _ (fun e => by have := congrArg Addr.block e; simp at this; omega)]
    exact hc i hi

theorem At.setRest {w : World} {b : Nat} {a : Option Addr} {xs : List Int} {cap : Nat} {sh : Bool} (h : At w b a xs cap sh) {a' : Option Addr} {ys : List Int} {cap' : Nat} (hr : ByteRow w b a' ys) (hl : ys.length ≤ cap') (hs : ys.length ≤ xs.length) (len' : Nat) (hlen : len' = ys.length) :
    At (w.setCell ⟨b, 0, none⟩ (.slice a' len' cap')) b a' ys cap' sh := by
  subst hlen
  refine ⟨World.cell?_setCell_same _ _ _ h.rest, ?_, ?_, ?_, hr.setCell _ _, hl, Nat.le_trans hs h.small⟩
  · rw [World.cell?_setCell_other _ _ _ _ (fun e => by have := congrArg Addr.off e; simp at this)]; exact h.short
  · rw [World.frozen?_setCell]; exact h.fr
  · rw [World.frozen?_setCell]; exact h.fs

theorem At.setShort {w : World} {b : Nat} {a : Option Addr} {xs : List Int} {cap : Nat} {sh : Bool} (h : At w b a xs cap sh) (s' : Bool) : At (w.setCell ⟨b, 1, none⟩ (.bool s')) b a xs cap s' := by
  refine ⟨?_, World.cell?_setCell_same _ _ _ h.short, ?_, ?_, h.row.setCell _ _, h.len, h.small⟩
  · rw [World.cell?_setCell_other _ _ _ _ (fun e => by have := congrArg Addr.off e; simp at this)]; exact h.rest
  · rw [World.frozen?_setCell]; exact h.fr
  · rw [World.frozen?_setCell]; exact h.fs

/-- what a read leaves: the decoder at block b alone has turned -/
structure Left (w w' : World) (b : Nat) : Prop where
  below : Below b w w'
  size : w'.heap.size = w.heap.size
  above : ∀ k, k ≠ b → w'.heap[k]? = w.heap[k]?

theorem Left.set {w w' : World} {b : Nat} (h : Left w w' b) (o : Nat) (v : Value) : Left w (w'.setCell ⟨b, o, none⟩ v) b :=
  ⟨h.below.setCell (p := ⟨b, o, none⟩) (Nat.le_refl _) _, by simp [h.size], fun k hk => by rw [Below.heap_setCell _ _ _ _ hk]; exact h.above k hk⟩
theorem Left.refl (w : World) (b : Nat) : Left w w b := ⟨Below.refl _ _, rfl, fun _ _ => rfl⟩

set_option maxHeartbeats 400000 in
/-- fixed, cut short -/
theorem fixed_short (b : Nat) (a : Option Addr) (xs : List Int) (cap : Nat) (sh : Bool) (n : Int) (w : World) (h : At w b a xs cap sh) (hs : sh = true ∨ (xs.length : Int) < n) :
    Calls Try.prog 15 #[.pointer (some ⟨b, 0, none⟩), .int .u64 n] w fun e w' => e = .returned (.slice none 0 0) ∧ At w' b a xs cap true ∧ Left w w' b := by
  have h0 := h.rest
  have h1 := h.short
  have f1 := h.fs
  have hsm := h.small
  have H : Kept (At w b a xs cap sh) := ⟨h⟩
  clear h
  cases sh
  case true =>
    go_enter Try.func15, Try.ntmps15
    go_wp2
    go_ret
    exact ⟨rfl, H.out.setShort true, (Left.refl _ _).set 1 _⟩
  case false =>
    have hlt : (xs.length : Int) < n := by simpa using hs
    clear hs
    go_enter Try.func15, Try.ntmps15
    go_wp2
    go_ret
    exact ⟨rfl, H.out.setShort true, (Left.refl _ _).set 1 _⟩

set_option maxHeartbeats 400000 in
/-- fixed, with m bytes there, the room ends with them -/
theorem fixed_full (b blk off : Nat) (xs : List Int) (m : Nat) (w : World) (h : At w b (some ⟨blk, off, none⟩) xs m false) (hm : xs.length = m) :
    Calls Try.prog 15 #[.pointer (some ⟨b, 0, none⟩), .int .u64 (m : Int)] w fun e w' => e = .returned (.slice (some ⟨blk, off, none⟩) m m) ∧ At w' b (some ⟨blk, off, none⟩) (xs.drop m) 0 false ∧ Left w w' b := by
  have h0 := h.rest
  rw [hm] at h0
  have h1 := h.short
  have f0 := h.fr
  have hsm := h.small
  rw [hm] at hsm
  have H : Kept (At w b (some ⟨blk, off, none⟩) xs m false) := ⟨h⟩
  have HM : Kept (xs.length = m) := ⟨hm⟩
  clear h hm
  go_enter Try.func15, Try.ntmps15
  go_wp2
  go_ret
  have hd : xs.drop m = [] := List.drop_eq_nil_of_le (by rw [HM.out]; exact Nat.le_refl _)
  rw [hd]
  exact ⟨rfl, H.out.setRest (.inl rfl) (by simp) (by simp) _ rfl, (Left.refl _ _).set 0 _⟩

set_option maxHeartbeats 400000 in
/-- fixed, with m bytes there and room behind them -/
theorem fixed_ok (b blk off : Nat) (xs : List Int) (cap m : Nat) (w : World) (h : At w b (some ⟨blk, off, none⟩) xs cap false) (hm : m ≤ xs.length) (hc : ¬ cap = m) :
    Calls Try.prog 15 #[.pointer (some ⟨b, 0, none⟩), .int .u64 (m : Int)] w fun e w' => e = .returned (.slice (some ⟨blk, off, none⟩) m cap) ∧ At w' b (some ⟨blk, off + m, none⟩) (xs.drop m) (cap - m) false ∧ Left w w' b := by
  have h0 := h.rest
  have h1 := h.short
  have f0 := h.fr
  have hsm := h.small
  have hlc := h.len
  have H : Kept (At w b (some ⟨blk, off, none⟩) xs cap false) := ⟨h⟩
  clear h
  have hc0 : ¬ cap = 0 := by omega
  go_enter Try.func15, Try.ntmps15
  go_wp2
  go_ret
  exact ⟨rfl, H.out.setRest (H.out.row.drop m) (by rw [List.length_drop]; omega) (by rw [List.length_drop]; omega) _ (by rw [List.length_drop]), (Left.refl _ _).set 0 _⟩

theorem fixed_some (b blk off : Nat) (xs : List Int) (cap m : Nat) (w : World) (h : At w b (some ⟨blk, off, none⟩) xs cap false) (hm : m ≤ xs.length) :
    Calls Try.prog 15 #[.pointer (some ⟨b, 0, none⟩), .int .u64 (m : Int)] w fun e w' => e = .returned (.slice (some ⟨blk, off, none⟩) m cap) ∧ (∃ off' cap', At w' b (some ⟨blk, off', none⟩) (xs.drop m) cap' false) ∧ Left w w' b := by
  by_cases hc : cap = m
  · subst hc
    exact (fixed_full b blk off xs cap w h (Nat.le_antisymm h.len hm)).mono fun e w' ⟨h1, h2, h3⟩ => ⟨h1, ⟨_, _, h2⟩, h3⟩
  · exact (fixed_ok b blk off xs cap m w h hm hc).mono fun e w' ⟨h1, h2, h3⟩ => ⟨h1, ⟨_, _, h2⟩, h3⟩

set_option maxHeartbeats 400000 in
/-- bool, cut short -/
theorem bool_short (b : Nat) (a : Option Addr) (xs : List Int) (cap : Nat) (sh : Bool) (w : World) (h : At w b a xs cap sh) (hs : sh = true ∨ xs = []) :
    Calls Try.prog 14 #[.pointer (some ⟨b, 0, none⟩)] w fun e w' => e = .returned (.bool false) ∧ At w' b a xs cap true ∧ Left w w' b := by
  have H : Kept (At w b a xs cap sh) := ⟨h⟩
  have HS : Kept (sh = true ∨ (xs.length : Int) < 1) := ⟨by rcases hs with h | h; (exact .inl h); (right; rw [h]; simp)⟩
  clear h hs
  go_enter Try.func14, Try.ntmps14
  go_wp2_with fail
  refine (fixed_short b a xs cap sh 1 w H.out HS.out).mono ?_
  rintro e w1 ⟨rfl, h1, h2⟩
  have H1 := Kept.mk h1
  have H2 := Kept.mk h2
  clear h1 h2
  go_wp2_with fail
  go_ret
  exact ⟨rfl, H1.out, H2.out⟩

set_option maxHeartbeats 400000 in
/-- bool, a byte there -/
theorem bool_ok (b blk off : Nat) (c : Int) (r : List Int) (cap : Nat) (w : World) (h : At w b (some ⟨blk, off, none⟩) (c :: r) cap false) :
    Calls Try.prog 14 #[.pointer (some ⟨b, 0, none⟩)] w fun e w' => e = .returned (.bool (c == 1)) ∧ (∃ off' cap', At w' b (some ⟨blk, off', none⟩) r cap' false) ∧ Left w w' b := by
  have H : Kept (At w b (some ⟨blk, off, none⟩) (c :: r) cap false) := ⟨h⟩
  have hbc : blk < b ∧ w.cell? ⟨blk, off, none⟩ = some (.int .u8 c) := by
    rcases h.row with hn | ⟨blk', off', he, hb, hc⟩
    · cases hn
    · simp only [Option.some.injEq, Addr.mk.injEq, and_true] at he
      obtain ⟨rfl, rfl⟩ := he
      exact ⟨hb, hc 0 (by simp)⟩
  obtain ⟨hb, hc⟩ := hbc
  have HC : Kept (w.cell? ⟨blk, off, none⟩ = some (.int .u8 c)) := ⟨hc⟩
  clear h hc
  go_enter Try.func14, Try.ntmps14
  go_wp2_with fail
  refine (fixed_some b blk off (c :: r) cap 1 w H.out (by simp)).mono ?_
  rintro e w1 ⟨rfl, h1, h2⟩
  have hc1 : w1.cell? ⟨blk, off, none⟩ = some (.int .u8 c) := by rw [h2.below.cell (p := ⟨blk, off, none⟩) hb]; exact HC.out
  have H1 := Kept.mk h1
  have H2 := Kept.mk h2
  clear h1 h2
  go_wp2_with fail
  go_ret
  exact ⟨rfl, H1.out, H2.out⟩

theorem info5 : (Try.prog.info? 5).map (fun i => (i.zero, i.size, i.bytes)) = some (some (.int .u8 0), 1, 1) := by kernel_rfl

/-- the new row while it is filled: the first k bytes are there -/
structure Fill (w wr : World) (xs : List Int) (k : Nat) : Prop where
  cells : ∃ g : Nat → Int, (∀ i, i < xs.length → wr.cell? ⟨w.heap.size, i, none⟩ = some (.int .u8 (g i))) ∧ ∀ i, i < k → g i = xs.getD i 0
  froz : ∀ i, wr.frozen? ⟨w.heap.size, i, none⟩ = false
  below : Below w.heap.size w wr
  size : w.heap.size < wr.heap.size

theorem Fill.put {w wr : World} {xs : List Int} {k : Nat} (h : Fill w wr xs k) (hk : k < xs.length) : Fill w (wr.setCell ⟨w.heap.size, k, none⟩ (.int .u8 (xs.getD k 0))) xs (k + 1) := by
  obtain ⟨⟨g, hg, hd⟩, hf, hb, hz⟩ := h
  refine ⟨⟨fun i => if i = k then xs.getD k 0 else g i, fun i hi => ?_, fun i hi => ?_⟩, fun i => ?_, hb.setCell (p := ⟨w.heap.size, k, none⟩) (Nat.le_refl _) _, by simpa using hz⟩
  · by_cases e : i = k
    · subst e
      simp only [if_true]
      exact World.cell?_setCell_same _ _ _ (hg i hi)
    · simp only [e, if_false]
      rw [← hg i hi]
      exact World.cell?_setCell_other _ _ _ _ (fun h => e (congrArg Addr.off h).symm)
  · by_cases e : i = k
    · simp [e]
    · simp only [e, if_false]
      exact hd i (by omega)
  · rw [World.frozen?_setCell]; exact hf i

theorem Fill.row {w wr : World} {xs : List Int} (h : Fill w wr xs xs.length) : ByteRow wr wr.heap.size (some ⟨w.heap.size, 0, none⟩) xs := by
  obtain ⟨g, hg, hd⟩ := h.cells
  refine .inr ⟨_, 0, rfl, h.size, fun i hi => ?_⟩
  rw [Nat.zero_add, hg i hi, hd i hi]

/-- what cloneBytes answers -/
structure Clone (w w' : World) (a : Option Addr) (xs : List Int) : Prop where
  row : ByteRow w' w'.heap.size a xs
  below : Below w.heap.size w w'
  shape : (a = none ∧ xs = []) ∨ ∃ g, a = some ⟨g, 0, none⟩

set_option maxHeartbeats 400000 in
theorem clone_any (a : Option Addr) (xs : List Int) (cap : Nat) (w : World) (hr : ByteRow w w.heap.size a xs) (hn : a = none → xs = []) (hz : xs.length ≤ 1048576) :
    Calls Try.prog 6 #[.slice a xs.length cap] w fun e w' => ∃ a', e = .returned (.slice a' xs.length xs.length) ∧ Clone w w' a' xs := by
  cases a with
  | none =>
    obtain rfl := hn rfl
    have heq := fun W => Lib.run_eql_slice_nil (P := Try.prog) W 22 5 none 0 cap 0 0 Try.underlying22
    go_enter Try.func6, Try.ntmps6
    go_wp2
    go_ret
    exact ⟨none, rfl, .inl rfl, Below.refl _ _, .inl ⟨rfl, rfl⟩⟩
  | some y =>
    obtain ⟨ti, hti, hz0, hz1, hz2⟩ := info_parts info5
    have hmk := run_make (P := Try.prog) w 22 5 ti (.int .u8 0) Try.underlying22 hti hz0 .i64 .i64 xs.length xs.length (by omega) (Int.le_refl _) (by rw [hz2]; omega) (by omega)
    simp only [Int.toNat_natCast, hz1, Nat.mul_one] at hmk
    have hF : Fill w (w.alloc (.cells (madeCells (Value.int .u8 0).cells xs.length) 5)) xs 0 := by
      refine ⟨⟨fun _ => 0, fun i hi => ?_, fun i hi => absurd hi (Nat.not_lt_zero _)⟩, fun i => World.frozen?_alloc_at _ _ _ _ rfl, (Below.refl _ _).alloc (Nat.le_refl _) _, by simp⟩
      rw [World.cell?_alloc_at _ _ _ _ rfl]
      simp [madeCells, hi, Value.cells, Nat.mod_one]
    generalize hw1 : w.alloc (.cells (madeCells (Value.int .u8 0).cells xs.length) 5) = w1 at hmk hF
    clear hw1
    have HR : Kept (ByteRow w w.heap.size (some y) xs) := ⟨hr⟩
    have HF := Kept.mk hF
    have heq := fun W => Lib.run_eql_slice_nil (P := Try.prog) W 22 5 (some y) xs.length cap 0 0 Try.underlying22
    clear hr hF hn hti hz0 hz1 hz2
    go_enter Try.func6, Try.ntmps6
    go_wp2
    clear hmk heq
    go_loopw [4] (fun iv wr => ∃ k : Nat, k ≤ xs.length ∧ iv = .int .i64 k ∧ Kept (Fill w wr xs k)) (fun iv _ => xs.length - (intOf iv).toNat)
    case atStart => exact ⟨0, Nat.zero_le _, rfl, HF⟩
    case round =>
      obtain ⟨k, hk, rfl, HK⟩ := hrel
      clear HF
      by_cases hlt : k < xs.length
      · obtain ⟨blk, off, hab, hcell⟩ := (HR.out.below HK.out.below (Nat.le_refl _)).at hlt
        simp only [Option.some.injEq] at hab
        subst hab
        obtain ⟨g, hg, _⟩ := HK.out.cells
        have hold := hg k hlt
        have hfr := HK.out.froz k
        have HP := Kept.mk (HK.out.put hlt)
        generalize xs.getD k 0 = x at hcell HP
        clear hg
        go_wp2_with fail
        go_roundw
        case rel => exact ⟨k + 1, by omega, by go_num, HP⟩
        case measure => simp [intOf]; omega
      · obtain rfl : k = xs.length := by omega
        go_wp2_with fail
        go_ret
        exact ⟨_, rfl, HK.out.row, HK.out.below, .inr ⟨_, rfl⟩⟩
end Dec
end Go.Proofs.Qxb6618613a
