import Derived.Test.Qxb6617867aRows
import Derived.WalkKit
import Derived.WalkSpells
import Derived.WalkLawsBesides
import Derived.BigQuiet
import Derived.Deep.QuietTactic
import Derived.RegionTactic
namespace Go.Proofs.Qxb6617867a
open Go.RowKit
namespace Cfg

/-- a fact kept from the walk, behind a structure -/
structure Kept (p : Prop) : Prop where
  out : p

/-- the slice at a, read in w, holds the bytes xs; they lie below block B -/
def ByteRow (w : World) (B : Nat) (a : Option Addr) (xs : List Int) : Prop :=
  xs = [] ∨ ∃ blk off, a = some ⟨blk, off, none⟩ ∧ blk < B ∧ ∀ i, i < xs.length → w.cell? ⟨blk, off + i, none⟩ = some (.int .u8 (xs.getD i 0))

/-- one line further -/
def inc (l : Int) : Int := wrap64 (l + 1)

/-- what next reads: the byte, the rest, the line -/
def nextC : List Int → Int
  | [] => -1
  | c :: r => if c = 13 ∧ r.head? = some 10 then 10 else c
def nextR : List Int → List Int
  | [] => []
  | c :: r => if c = 13 ∧ r.head? = some 10 then r.tail else r
def nextL (l : Int) : List Int → Int
  | [] => l
  | c :: r => if (c = 13 ∧ r.head? = some 10) ∨ c = 10 then inc l else l

/-- the parser at block b stands at the bytes xs and at line l -/
structure Par (w : World) (b : Nat) (a : Option Addr) (xs : List Int) (cap : Nat) (l : Int) : Prop where
  text : w.cell? ⟨b, 0, none⟩ = some (.slice a xs.length cap)
  line : w.cell? ⟨b, 1, none⟩ = some (.int .i64 l)
  ft : w.frozen? ⟨b, 0, none⟩ = false
  fl : w.frozen? ⟨b, 1, none⟩ = false
  row : ByteRow w b a xs
  len : xs.length ≤ cap
  small : xs.length ≤ 1048576
  byte : ∀ x ∈ xs, 0 ≤ x ∧ x ≤ 255

theorem ByteRow.setCell {w : World} {B : Nat} {a : Option Addr} {xs : List Int} (h : ByteRow w B a xs) (o : Nat) (v : Value) : ByteRow (w.setCell ⟨B, o, none⟩ v) B a xs := by
  rcases h with h | ⟨blk, off, rfl, hb, hc⟩
  · exact .inl h
  · refine .inr ⟨blk, off, rfl, hb, fun i hi => ?_⟩
    rw [World.cell?_setCell_other _ _ _ _ (fun e => by have := congrArg Addr.block e; simp at this; omega)]
    exact hc i hi

theorem Par.setText {w : World} {b : Nat} {a : Option Addr} {xs : List Int} {cap : Nat} {l : Int} (h : Par w b a xs cap l) {a' : Option Addr} {ys : List Int} {cap' : Nat} (hr : ByteRow w b a' ys) (hl : ys.length ≤ cap') (hs : ys.length ≤ xs.length) (hm : ∀ y ∈ ys, y ∈ xs) (len' : Nat) (hlen : len' = ys.length) :
    Par (w.setCell ⟨b, 0, none⟩ (.slice a' len' cap')) b a' ys cap' l := by
  subst hlen
  refine ⟨World.cell?_setCell_same _ _ _ h.text, ?_, ?_, ?_, hr.setCell _ _, hl, Nat.le_trans hs h.small, fun y hy => h.byte y (hm y hy)⟩
  · rw [World.cell?_setCell_other _ _ _ _ (fun e => by have := congrArg Addr.off e; simp at this)]; exact h.line
  · rw [World.frozen?_setCell]; exact h.ft
  · rw [World.frozen?_setCell]; exact h.fl

theorem Par.setLine {w : World} {b : Nat} {a : Option Addr} {xs : List Int} {cap : Nat} {l : Int} (h : Par w b a xs cap l) (l' : Int) : Par (w.setCell ⟨b, 1, none⟩ (.int .i64 l')) b a xs cap l' := by
  refine ⟨?_, World.cell?_setCell_same _ _ _ h.line, ?_, ?_, h.row.setCell _ _, h.len, h.small, h.byte⟩
  · rw [World.cell?_setCell_other _ _ _ _ (fun e => by have := congrArg Addr.off e; simp at this)]; exact h.text
  · rw [World.frozen?_setCell]; exact h.ft
  · rw [World.frozen?_setCell]; exact h.fl

theorem Par.drew {w : World} {b : Nat} {a : Option Addr} {xs : List Int} {cap : Nat} {l : Int} (h : Par w b a xs cap l) : Par w.drew b a xs cap l := ⟨h.text, h.line, h.ft, h.fl, h.row, h.len, h.small, h.byte⟩

theorem ByteRow.tail {w : World} {B : Nat} {blk off : Nat} {c : Int} {r : List Int} (h : ByteRow w B (some ⟨blk, off, none⟩) (c :: r)) : ByteRow w B (some ⟨blk, off + 1, none⟩) r := by
  rcases h with h | ⟨blk', off', he, hb, hc⟩
  · cases h
  · simp only [Option.some.injEq, Addr.mk.injEq, and_true] at he
    obtain ⟨rfl, rfl⟩ := he
    refine .inr ⟨_, _, rfl, hb, fun i hi => ?_⟩
    have := hc (i + 1) (by simp; omega)
    rw [show off + (i + 1) = off + 1 + i by omega] at this
    rw [this]
    simp [List.getD]

/-- what next leaves -/
def After (w w' : World) (b : Nat) (xs : List Int) (l : Int) : Prop := (∃ a cap, Par w' b a xs cap l) ∧ Below b w w' ∧ w'.heap.size = w.heap.size

set_option maxHeartbeats 400000 in
theorem next_nil (b : Nat) (a : Option Addr) (cap : Nat) (l : Int) (w : World) (h : Par w b a [] cap l) :
    Calls Try.prog 13 #[.pointer (some ⟨b, 0, none⟩)] w fun e w' => e = .returned (.int .i64 (-1)) ∧ After w w' b [] l := by
  have h0 : w.cell? ⟨b, 0, none⟩ = some (.slice a 0 cap) := h.text
  have H : Kept (Par w b a [] cap l) := ⟨h⟩
  clear h
  go_enter Try.func13, Try.ntmps13
  go_wp2
  go_ret
  exact ⟨rfl, ⟨_, _, H.out⟩, Below.refl _ _, rfl⟩

theorem after_text {w : World} {b : Nat} {a : Option Addr} {xs : List Int} {cap : Nat} {l : Int} (h : Par w b a xs cap l) {a' : Option Addr} {ys : List Int} {cap' : Nat} (hr : ByteRow w b a' ys) (hl : ys.length ≤ cap') (hs : ys.length ≤ xs.length) (hm : ∀ y ∈ ys, y ∈ xs) (len' : Nat) (hlen : len' = ys.length) :
    After w (w.setCell ⟨b, 0, none⟩ (.slice a' len' cap')) b ys l :=
  ⟨⟨_, _, h.setText hr hl hs hm len' hlen⟩, (Below.refl _ _).setCell (p := ⟨b, 0, none⟩) (Nat.le_refl _) _, by simp⟩

theorem after_both {w : World} {b : Nat} {a : Option Addr} {xs : List Int} {cap : Nat} {l : Int} (h : Par w b a xs cap l) {a' : Option Addr} {ys : List Int} {cap' : Nat} (hr : ByteRow w b a' ys) (hl : ys.length ≤ cap') (hs : ys.length ≤ xs.length) (hm : ∀ y ∈ ys, y ∈ xs) (len' : Nat) (hlen : len' = ys.length) (l' : Int) :
    After w ((w.setCell ⟨b, 0, none⟩ (.slice a' len' cap')).setCell ⟨b, 1, none⟩ (.int .i64 l')) b ys l' :=
  ⟨⟨_, _, (h.setText hr hl hs hm len' hlen).setLine l'⟩, ((Below.refl _ _).setCell (p := ⟨b, 0, none⟩) (Nat.le_refl _) _).setCell (p := ⟨b, 1, none⟩) (Nat.le_refl _) _, by simp⟩

theorem after_crlf {w : World} {b : Nat} {a : Option Addr} {xs : List Int} {cap : Nat} {l : Int} (h : Par w b a xs cap l) {a1 : Option Addr} {zs : List Int} {cap1 : Nat} (hr1 : ByteRow w b a1 zs) (hl1 : zs.length ≤ cap1) (hs1 : zs.length ≤ xs.length) (hm1 : ∀ y ∈ zs, y ∈ xs) (len1 : Nat) (hlen1 : len1 = zs.length)
    {a2 : Option Addr} {ys : List Int} {cap2 : Nat} (hr : ByteRow w b a2 ys) (hl : ys.length ≤ cap2) (hs : ys.length ≤ zs.length) (hm : ∀ y ∈ ys, y ∈ zs) (len2 : Nat) (hlen : len2 = ys.length) (l' : Int) :
    After w (((w.setCell ⟨b, 0, none⟩ (.slice a1 len1 cap1)).setCell ⟨b, 0, none⟩ (.slice a2 len2 cap2)).setCell ⟨b, 1, none⟩ (.int .i64 l')).drew b ys l' :=
  ⟨⟨_, _, (((h.setText hr1 hl1 hs1 hm1 len1 hlen1).setText (hr.setCell _ _) hl hs hm len2 hlen).setLine l').drew⟩,
    ((((Below.refl _ _).setCell (p := ⟨b, 0, none⟩) (Nat.le_refl _) _).setCell (p := ⟨b, 0, none⟩) (Nat.le_refl _) _).setCell (p := ⟨b, 1, none⟩) (Nat.le_refl _) _).drew, by simp⟩

set_option maxHeartbeats 400000 in
/-- a byte that is neither a carriage return nor a line feed; there is room behind it -/
theorem next_plain (b blk off cap : Nat) (c : Int) (r : List Int) (l : Int) (w : World) (h : Par w b (some ⟨blk, off, none⟩) (c :: r) (cap + 2) l) (h13 : c ≠ 13) (h10 : c ≠ 10) :
    Calls Try.prog 13 #[.pointer (some ⟨b, 0, none⟩)] w fun e w' => e = .returned (.int .i64 c) ∧ After w w' b r l := by
  have h0 : w.cell? ⟨b, 0, none⟩ = some (.slice (some ⟨blk, off, none⟩) (r.length + 1) (cap + 2)) := h.text
  have f0 := h.ft
  have hrl : r.length < 1048576 := by have := h.small; simp at this; omega
  obtain ⟨c0, c1⟩ := h.byte c (by simp)
  have hbc : blk < b ∧ w.cell? ⟨blk, off, none⟩ = some (.int .u8 c) := by
    rcases h.row with hn | ⟨blk', off', he, hb, hc⟩
    · cases hn
    · simp only [Option.some.injEq, Addr.mk.injEq, and_true] at he
      obtain ⟨rfl, rfl⟩ := he
      exact ⟨hb, hc 0 (by simp)⟩
  obtain ⟨hb, hc⟩ := hbc
  have H : Kept (Par w b (some ⟨blk, off, none⟩) (c :: r) (cap + 2) l) := ⟨h⟩
  clear h
  go_enter Try.func13, Try.ntmps13
  go_wp2
  go_ret
  have hz := H.out.len
  exact ⟨rfl, after_text H.out H.out.row.tail (by simp at hz ⊢; omega) (by simp) (fun y hy => by simp [hy]) _ rfl⟩

set_option maxHeartbeats 400000 in
theorem next_lf (b blk off cap : Nat) (r : List Int) (l : Int) (w : World) (h : Par w b (some ⟨blk, off, none⟩) (10 :: r) (cap + 2) l) :
    Calls Try.prog 13 #[.pointer (some ⟨b, 0, none⟩)] w fun e w' => e = .returned (.int .i64 10) ∧ After w w' b r (inc l) := by
  have h0 : w.cell? ⟨b, 0, none⟩ = some (.slice (some ⟨blk, off, none⟩) (r.length + 1) (cap + 2)) := h.text
  have f0 := h.ft
  have f1 := h.fl
  have hl1 := h.line
  have hrl := h.small
  simp at hrl
  have hbc : blk < b ∧ w.cell? ⟨blk, off, none⟩ = some (.int .u8 10) := by
    rcases h.row with hn | ⟨blk', off', he, hb, hc⟩
    · cases hn
    · simp only [Option.some.injEq, Addr.mk.injEq, and_true] at he
      obtain ⟨rfl, rfl⟩ := he
      exact ⟨hb, hc 0 (by simp)⟩
  obtain ⟨hb, hc⟩ := hbc
  have H : Kept (Par w b (some ⟨blk, off, none⟩) (10 :: r) (cap + 2) l) := ⟨h⟩
  clear h
  go_enter Try.func13, Try.ntmps13
  go_wp2
  go_ret
  have hz := H.out.len
  exact ⟨rfl, after_both H.out H.out.row.tail (by simp at hz ⊢; omega) (by simp) (fun y hy => by simp [hy]) _ rfl _⟩

set_option maxHeartbeats 400000 in
theorem next_lf1 (b blk off : Nat)  (l : Int) (w : World) (h : Par w b (some ⟨blk, off, none⟩) [10] (1) l) :
    Calls Try.prog 13 #[.pointer (some ⟨b, 0, none⟩)] w fun e w' => e = .returned (.int .i64 10) ∧ After w w' b [] (inc l) := by
  have h0 : w.cell? ⟨b, 0, none⟩ = some (.slice (some ⟨blk, off, none⟩) 1 (1)) := h.text
  have f0 := h.ft
  have f1 := h.fl
  have hl1 := h.line
  have hrl := h.small
  simp at hrl
  have hbc : blk < b ∧ w.cell? ⟨blk, off, none⟩ = some (.int .u8 10) := by
    rcases h.row with hn | ⟨blk', off', he, hb, hc⟩
    · cases hn
    · simp only [Option.some.injEq, Addr.mk.injEq, and_true] at he
      obtain ⟨rfl, rfl⟩ := he
      exact ⟨hb, hc 0 (by simp)⟩
  obtain ⟨hb, hc⟩ := hbc
  have H : Kept (Par w b (some ⟨blk, off, none⟩) [10] (1) l) := ⟨h⟩
  clear h
  go_enter Try.func13, Try.ntmps13
  go_wp2
  go_ret
  exact ⟨rfl, after_both H.out (.inl rfl) (by simp) (by simp) (fun y hy => by simp at hy) _ rfl _⟩

set_option maxHeartbeats 400000 in
theorem next_plain1 (b blk off : Nat) (c : Int) (l : Int) (w : World) (h : Par w b (some ⟨blk, off, none⟩) [c] (1) l) (h10 : c ≠ 10) (h13 : c ≠ 13) :
    Calls Try.prog 13 #[.pointer (some ⟨b, 0, none⟩)] w fun e w' => e = .returned (.int .i64 c) ∧ After w w' b [] l := by
  have h0 : w.cell? ⟨b, 0, none⟩ = some (.slice (some ⟨blk, off, none⟩) 1 (1)) := h.text
  have f0 := h.ft
  have f1 := h.fl
  have hl1 := h.line
  have hrl := h.small
  simp at hrl
  obtain ⟨c0, c1⟩ := h.byte c (by simp)
  have hbc : blk < b ∧ w.cell? ⟨blk, off, none⟩ = some (.int .u8 c) := by
    rcases h.row with hn | ⟨blk', off', he, hb, hc⟩
    · cases hn
    · simp only [Option.some.injEq, Addr.mk.injEq, and_true] at he
      obtain ⟨rfl, rfl⟩ := he
      exact ⟨hb, hc 0 (by simp)⟩
  obtain ⟨hb, hc⟩ := hbc
  have H : Kept (Par w b (some ⟨blk, off, none⟩) [c] (1) l) := ⟨h⟩
  clear h
  go_enter Try.func13, Try.ntmps13
  go_wp2
  go_ret
  exact ⟨rfl, after_text H.out (.inl rfl) (by simp) (by simp) (fun y hy => by simp at hy) _ rfl⟩

set_option maxHeartbeats 400000 in
theorem next_cr_end (b blk off cap : Nat)  (l : Int) (w : World) (h : Par w b (some ⟨blk, off, none⟩) [13] (cap + 2) l) :
    Calls Try.prog 13 #[.pointer (some ⟨b, 0, none⟩)] w fun e w' => e = .returned (.int .i64 13) ∧ After w w' b [] l := by
  have h0 : w.cell? ⟨b, 0, none⟩ = some (.slice (some ⟨blk, off, none⟩) 1 (cap + 2)) := h.text
  have f0 := h.ft
  have f1 := h.fl
  have hl1 := h.line
  have hrl := h.small
  simp at hrl
  have hbc : blk < b ∧ w.cell? ⟨blk, off, none⟩ = some (.int .u8 13) := by
    rcases h.row with hn | ⟨blk', off', he, hb, hc⟩
    · cases hn
    · simp only [Option.some.injEq, Addr.mk.injEq, and_true] at he
      obtain ⟨rfl, rfl⟩ := he
      exact ⟨hb, hc 0 (by simp)⟩
  obtain ⟨hb, hc⟩ := hbc
  have H : Kept (Par w b (some ⟨blk, off, none⟩) [13] (cap + 2) l) := ⟨h⟩
  clear h
  go_enter Try.func13, Try.ntmps13
  go_wp2
  go_ret
  exact ⟨rfl, after_text H.out (.inl rfl) (by simp) (by simp) (fun y hy => by simp at hy) _ rfl⟩

set_option maxHeartbeats 400000 in
theorem next_cr1 (b blk off : Nat)  (l : Int) (w : World) (h : Par w b (some ⟨blk, off, none⟩) [13] (1) l) :
    Calls Try.prog 13 #[.pointer (some ⟨b, 0, none⟩)] w fun e w' => e = .returned (.int .i64 13) ∧ After w w' b [] l := by
  have h0 : w.cell? ⟨b, 0, none⟩ = some (.slice (some ⟨blk, off, none⟩) 1 (1)) := h.text
  have f0 := h.ft
  have f1 := h.fl
  have hl1 := h.line
  have hrl := h.small
  simp at hrl
  have hbc : blk < b ∧ w.cell? ⟨blk, off, none⟩ = some (.int .u8 13) := by
    rcases h.row with hn | ⟨blk', off', he, hb, hc⟩
    · cases hn
    · simp only [Option.some.injEq, Addr.mk.injEq, and_true] at he
      obtain ⟨rfl, rfl⟩ := he
      exact ⟨hb, hc 0 (by simp)⟩
  obtain ⟨hb, hc⟩ := hbc
  have H : Kept (Par w b (some ⟨blk, off, none⟩) [13] (1) l) := ⟨h⟩
  clear h
  go_enter Try.func13, Try.ntmps13
  go_wp2
  go_ret
  exact ⟨rfl, after_text H.out (.inl rfl) (by simp) (by simp) (fun y hy => by simp at hy) _ rfl⟩

set_option maxHeartbeats 400000 in
theorem next_cr (b blk off cap : Nat) (d : Int) (r : List Int) (l : Int) (w : World) (h : Par w b (some ⟨blk, off, none⟩) (13 :: d :: r) (cap + 2) l) (h10 : d ≠ 10) :
    Calls Try.prog 13 #[.pointer (some ⟨b, 0, none⟩)] w fun e w' => e = .returned (.int .i64 13) ∧ After w w' b (d :: r) l := by
  have h0 : w.cell? ⟨b, 0, none⟩ = some (.slice (some ⟨blk, off, none⟩) (r.length + 2) (cap + 2)) := h.text
  have f0 := h.ft
  have f1 := h.fl
  have hl1 := h.line
  have hrl := h.small
  simp at hrl
  obtain ⟨d0, d1⟩ := h.byte d (by simp)
  have hbc : blk < b ∧ w.cell? ⟨blk, off, none⟩ = some (.int .u8 13) ∧ w.cell? ⟨blk, off + 1, none⟩ = some (.int .u8 d) := by
    rcases h.row with hn | ⟨blk', off', he, hb, hc⟩
    · cases hn
    · simp only [Option.some.injEq, Addr.mk.injEq, and_true] at he
      obtain ⟨rfl, rfl⟩ := he
      exact ⟨hb, hc 0 (by simp), hc 1 (by simp)⟩
  obtain ⟨hb, hc, hd⟩ := hbc
  have H : Kept (Par w b (some ⟨blk, off, none⟩) (13 :: d :: r) (cap + 2) l) := ⟨h⟩
  clear h
  go_enter Try.func13, Try.ntmps13
  go_wp2
  go_ret
  have hz := H.out.len
  exact ⟨rfl, after_text H.out H.out.row.tail (by simp at hz ⊢; omega) (by simp) (fun y hy => by simp [hy]) _ rfl⟩

set_option maxHeartbeats 400000 in
theorem next_crlf (b blk off cap : Nat) (r : List Int) (l : Int) (w : World) (h : Par w b (some ⟨blk, off, none⟩) (13 :: 10 :: r) (cap + 3) l) :
    Calls Try.prog 13 #[.pointer (some ⟨b, 0, none⟩)] w fun e w' => e = .returned (.int .i64 10) ∧ After w w' b r (inc l) := by
  have h0 : w.cell? ⟨b, 0, none⟩ = some (.slice (some ⟨blk, off, none⟩) (r.length + 2) (cap + 3)) := h.text
  have f0 := h.ft
  have f1 := h.fl
  have hl1 := h.line
  have hrl := h.small
  simp at hrl
  have hbc : blk < b ∧ w.cell? ⟨blk, off, none⟩ = some (.int .u8 13) ∧ w.cell? ⟨blk, off + 1, none⟩ = some (.int .u8 10) := by
    rcases h.row with hn | ⟨blk', off', he, hb, hc⟩
    · cases hn
    · simp only [Option.some.injEq, Addr.mk.injEq, and_true] at he
      obtain ⟨rfl, rfl⟩ := he
      exact ⟨hb, hc 0 (by simp), hc 1 (by simp)⟩
  obtain ⟨hb, hc, hd⟩ := hbc
  have H : Kept (Par w b (some ⟨blk, off, none⟩) (13 :: 10 :: r) (cap + 3) l) := ⟨h⟩
  clear h
  go_enter Try.func13, Try.ntmps13
  go_wp2
  go_region
  go_wp2
  go_ret
  have hz := H.out.len
  exact ⟨rfl, after_crlf H.out H.out.row.tail (by simp at hz ⊢; omega) (by simp) (fun y hy => by simp at hy ⊢; right; exact hy) _ rfl H.out.row.tail.tail (by simp at hz ⊢; omega) (by simp) (fun y hy => by simp [hy]) _ rfl _⟩

set_option maxHeartbeats 400000 in
theorem next_crlf2 (b blk off : Nat)  (l : Int) (w : World) (h : Par w b (some ⟨blk, off, none⟩) [13, 10] (2) l) :
    Calls Try.prog 13 #[.pointer (some ⟨b, 0, none⟩)] w fun e w' => e = .returned (.int .i64 10) ∧ After w w' b [] (inc l) := by
  have h0 : w.cell? ⟨b, 0, none⟩ = some (.slice (some ⟨blk, off, none⟩) 2 (2)) := h.text
  have f0 := h.ft
  have f1 := h.fl
  have hl1 := h.line
  have hrl := h.small
  simp at hrl
  have hbc : blk < b ∧ w.cell? ⟨blk, off, none⟩ = some (.int .u8 13) ∧ w.cell? ⟨blk, off + 1, none⟩ = some (.int .u8 10) := by
    rcases h.row with hn | ⟨blk', off', he, hb, hc⟩
    · cases hn
    · simp only [Option.some.injEq, Addr.mk.injEq, and_true] at he
      obtain ⟨rfl, rfl⟩ := he
      exact ⟨hb, hc 0 (by simp), hc 1 (by simp)⟩
  obtain ⟨hb, hc, hd⟩ := hbc
  have H : Kept (Par w b (some ⟨blk, off, none⟩) [13, 10] (2) l) := ⟨h⟩
  clear h
  go_enter Try.func13, Try.ntmps13
  go_wp2
  go_region
  go_wp2
  go_ret
  exact ⟨rfl, after_crlf H.out H.out.row.tail (by simp) (by simp) (fun y hy => by simp at hy ⊢; right; exact hy) _ rfl (.inl rfl) (by simp) (by simp) (fun y hy => by simp at hy) _ rfl _⟩

/-- the bytes that next reads, and what it leaves -/
theorem next_any (b : Nat) (a : Option Addr) (xs : List Int) (cap : Nat) (l : Int) (w : World) (h : Par w b a xs cap l) :
    Calls Try.prog 13 #[.pointer (some ⟨b, 0, none⟩)] w fun e w' => e = .returned (.int .i64 (nextC xs)) ∧ After w w' b (nextR xs) (nextL l xs) := by
  cases xs with
  | nil => exact next_nil b a cap l w h
  | cons c r =>
    obtain ⟨blk, off, rfl⟩ : ∃ blk off, a = some ⟨blk, off, none⟩ := by
      rcases h.row with hn | ⟨blk, off, he, _, _⟩
      · cases hn
      · exact ⟨blk, off, he⟩
    have hcl := h.len
    simp only [List.length_cons] at hcl
    by_cases hcap : cap = 1
    · subst hcap
      obtain rfl : r = [] := List.eq_nil_of_length_eq_zero (by omega)
      by_cases h10 : c = 10
      · subst h10; exact next_lf1 b blk off l w h
      · by_cases h13 : c = 13
        · subst h13; exact next_cr1 b blk off l w h
        · have := next_plain1 b blk off c l w h h10 h13
          simpa [nextC, nextR, nextL, h10, h13] using this
    · obtain ⟨k, rfl⟩ : ∃ k, cap = k + 2 := ⟨cap - 2, by omega⟩
      by_cases h10 : c = 10
      · subst h10
        have := next_lf b blk off k r l w h
        simpa [nextC, nextR, nextL] using this
      · by_cases h13 : c = 13
        · subst h13
          cases r with
          | nil => exact next_cr_end b blk off k l w h
          | cons d r =>
            by_cases hd : d = 10
            · subst hd
              by_cases hk : k = 0
              · subst hk
                simp only [List.length_cons] at hcl
                obtain rfl : r = [] := List.eq_nil_of_length_eq_zero (by omega)
                exact next_crlf2 b blk off l w h
              · obtain ⟨m, rfl⟩ : ∃ m, k = m + 1 := ⟨k - 1, by omega⟩
                exact next_crlf b blk off m r l w h
            · have := next_cr b blk off k d r l w h hd
              simpa [nextC, nextR, nextL, hd] using this
        · have := next_plain b blk off k c r l w h h13 h10
          simpa [nextC, nextR, nextL, h10, h13] using this
end Cfg
end Go.Proofs.Qxb6617867a
