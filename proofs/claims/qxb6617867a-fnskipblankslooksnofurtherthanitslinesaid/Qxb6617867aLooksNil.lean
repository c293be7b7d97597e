import Derived.Test.Qxb6617867aLooksWalk
namespace Go.Proofs.Qxb6617867a
open Go.RowKit
namespace Cfg

set_option maxRecDepth 100000 in
set_option maxHeartbeats 4000000 in
theorem looks_nil (a : Option Addr) (capA : Nat) (A : List Int) (line : Int) (w : World) (hra : ByteRow w w.heap.size a A) (hza : A.length ≤ 65536) (hba : ∀ x ∈ A, 0 ≤ x ∧ x ≤ 255) :
    Calls Try.prog 5 #[.slice a A.length capA, .slice none 0 0, .int .i64 line] w fun e w' => e = .returned (.bool true) ∧ Below w.heap.size w w' := by
  have HRA : Kept (ByteRow w w.heap.size a A) := ⟨hra⟩
  have HRB : Kept (ByteRow w w.heap.size none ([] : List Int)) := ⟨.inl rfl⟩
  have HBW : Kept (Below w.heap.size w w) := ⟨Below.refl _ _⟩
  have HYB : Kept (∀ x ∈ ([] : List Int), 0 ≤ x ∧ x ≤ 255) := ⟨fun x hx => by simp at hx⟩
  clear hra
  have HYA : Kept (∀ x ∈ A, 0 ≤ x ∧ x ≤ 255) := ⟨hba⟩
  clear hba
  obtain ⟨ti, hti, hz0, hz1, hz2⟩ := info_parts info5
  obtain ⟨w1, hmk1, hO1⟩ := make_run w (A.length + 1) (by omega)
  rw [show ((A.length + 1 : Nat) : Int) = (A.length : Int) + 1 by omega] at hmk1
  have HO : Kept (OwnB w w1 0 (A.length + 1) (A.take 0)) := ⟨by simpa using hO1⟩
  clear hO1
  go_enter Try.func5, Try.ntmps5
  go_wp2_with (first | (go_at_call 12; go_in) | fail)
  clear hmk1 
  go_loopw [8, 9] (fun v kk wr => ∃ k : Nat, k ≤ A.length ∧ kk = .int .i64 k ∧ v = .slice (some ⟨w.heap.size, 0, none⟩) k (A.length + 1) ∧ Kept (OwnB w wr k (A.length + 1) (A.take k))) (fun _ kk _ => A.length - (intOf kk).toNat)
  case atStart => exact ⟨0, Nat.zero_le _, rfl, rfl, HO⟩
  case round =>
    obtain ⟨k, hk, rfl, rfl, HK⟩ := hrel
    clear HO
    by_cases hlt : k < A.length
    · obtain ⟨blk, off, rfl, hcell⟩ := (HRA.out.below HK.out.below (Nat.le_refl _)).at hlt
      have HT : Kept (A.take (k + 1) = A.take k ++ [A.getD k 0]) := ⟨take_succ' A k hlt⟩
      generalize A.getD k 0 = p at hcell HT
      go_wp2_with (first | (at_builtin; refine wpList_append_fits _ rfl _ _ 22 rfl w.heap.size 5 ti 1 Try.underlying22 hti hz1 w.heap.size k (A.length + 1) _ rfl (HK.out.own.alloc _) ⟨wr.heap.size, 0, none⟩ 1 1 [.int .u8 p] rfl rfl (cell_newB _ _) (one_cellB _) (by omega) ?_) | fail)
      intro w2 hown hgrow
      have HK2 : Kept (OwnB w w2 (k + 1) (A.length + 1) (A.take (k + 1))) := ⟨by rw [HT.out]; exact HK.out.step hown hgrow⟩
      clear hown hgrow
      go_wp2_with fail
      go_roundw
      case rel => first | exact ⟨k + 1, by omega, by go_num, rfl, HK2⟩ | ((repeat apply Exists.intro); exact ⟨⟨k + 1, by omega, by go_num, rfl, HK2⟩, rfl⟩)
      case measure => simp [intOf]; omega
    · obtain rfl : k = A.length := by omega
      replace HK : Kept (OwnB w wr A.length (A.length + 1) A) := ⟨by have h9 := HK.out; rw [List.take_of_length_le (Nat.le_refl _)] at h9; exact h9⟩
      go_wp2_with (first | (at_builtin; refine wpList_append_fits _ rfl _ _ 22 rfl w.heap.size 5 ti 1 Try.underlying22 hti hz1 w.heap.size A.length (A.length + 1) _ rfl (HK.out.own.alloc _) ⟨wr.heap.size, 0, none⟩ 1 1 [.int .u8 10] rfl rfl (cell_newB _ _) (one_cellB _) (by omega) ?_) | fail)
      intro wH hown hgrow
      have HH : Kept (OwnB w wH (A.length + 1) (A.length + 1) (A ++ [10])) := ⟨HK.out.step hown hgrow⟩
      clear hown hgrow HK hlt hk
      obtain ⟨Hd, hHd⟩ : ∃ Hd, A ++ [(10 : Int)] = Hd := ⟨_, rfl⟩
      have hHl : Hd.length = A.length + 1 := by rw [← hHd]; simp
      have HHD : Kept (A ++ [(10 : Int)] = Hd) := ⟨hHd⟩
      have HHL : Kept (Hd.length = A.length + 1) := ⟨hHl⟩
      have HBH : Kept (Below w.heap.size w wH) := ⟨HBW.out.trans (HH.out.below.mono HBW.out.size)⟩
      have HRH : Kept (ByteRow wH wH.heap.size (some ⟨w.heap.size, 0, none⟩) Hd) := ⟨by rw [← hHd]; exact HH.out.row⟩
      have HRB2 : Kept (ByteRow wH wH.heap.size none ([] : List Int)) := ⟨HRB.out.below HH.out.below HH.out.below.size⟩
      clear hHd hHl HH HRB HRA HBW
      obtain ⟨w3, hmk3, hO3⟩ := make_run wH (A.length + 1 + 0) (by omega)
      rw [show ((A.length + 1 + 0 : Nat) : Int) = (A.length : Int) + 1  by omega] at hmk3
      have HO3 : Kept (OwnB wH w3 0 (A.length + 1 + 0) (Hd.take 0)) := ⟨by simpa using hO3⟩
      clear hO3
      go_wp2_with fail
      clear hmk3
      go_loopw [10, 11] (fun v kk wr => ∃ k : Nat, k ≤ A.length + 1 ∧ kk = .int .i64 k ∧ v = .slice (some ⟨wH.heap.size, 0, none⟩) k (A.length + 1 + 0) ∧ Kept (OwnB wH wr k (A.length + 1 + 0) (Hd.take k))) (fun _ kk _ => A.length + 1 - (intOf kk).toNat)
      case atStart => exact ⟨0, Nat.zero_le _, rfl, rfl, HO3⟩
      case round =>
        obtain ⟨k, hk, rfl, rfl, HK⟩ := hrel
        clear HO3
        by_cases hlt : k < A.length + 1
        · obtain ⟨blk, off, hab, hcell⟩ := (HRH.out.below HK.out.below (Nat.le_refl _)).at (k := k) (by rw [HHL.out]; exact hlt)
          simp only [Option.some.injEq, Addr.mk.injEq, and_true] at hab
          obtain ⟨rfl, rfl⟩ := hab
          rw [Nat.zero_add] at hcell
          have HT : Kept (Hd.take (k + 1) = Hd.take k ++ [Hd.getD k 0]) := ⟨take_succ' Hd k (by rw [HHL.out]; exact hlt)⟩
          generalize Hd.getD k 0 = p at hcell HT
          go_wp2_with (first | (at_builtin; refine wpList_append_fits _ rfl _ _ 22 rfl wH.heap.size 5 ti 1 Try.underlying22 hti hz1 wH.heap.size k (A.length + 1 + 0) _ rfl (HK.out.own.alloc _) ⟨wr.heap.size, 0, none⟩ 1 1 [.int .u8 p] rfl rfl (cell_newB _ _) (one_cellB _) (by omega) ?_) | fail)
          intro w2 hown hgrow
          have HK2 : Kept (OwnB wH w2 (k + 1) (A.length + 1 + 0) (Hd.take (k + 1))) := ⟨by rw [HT.out]; exact HK.out.step hown hgrow⟩
          clear hown hgrow
          go_wp2_with fail
          go_roundw
          case rel => first | exact ⟨k + 1, by omega, by go_num, rfl, HK2⟩ | ((repeat apply Exists.intro); exact ⟨⟨k + 1, by omega, by go_num, rfl, HK2⟩, rfl⟩)
          case measure => simp [intOf]; omega
        · obtain rfl : k = A.length + 1 := by omega
          have HK0 : Kept (OwnB wH wr (A.length + 1 + 0) (A.length + 1 + 0) (Hd ++ ([] : List Int).take 0)) := ⟨by have h9 := HK.out; rw [List.take_of_length_le (by rw [HHL.out]; exact Nat.le_refl _)] at h9; simpa using h9⟩
          clear HK
          go_wp2_with fail
          go_loopw [10, 12] (fun v kk wr => ∃ k : Nat, k ≤ 0 ∧ kk = .int .i64 k ∧ v = .slice (some ⟨wH.heap.size, 0, none⟩) (A.length + 1 + k) (A.length + 1 + 0) ∧ Kept (OwnB wH wr (A.length + 1 + k) (A.length + 1 + 0) (Hd ++ ([] : List Int).take k))) (fun _ kk _ => 0 - (intOf kk).toNat)
          case atStart => exact ⟨0, Nat.zero_le _, rfl, rfl, HK0⟩
          case round =>
            obtain ⟨k, hk, rfl, rfl, HK⟩ := hrel
            clear HK0
            obtain rfl : k = 0 := by omega
            obtain ⟨J, hJ⟩ : ∃ J, Hd ++ ([] : List Int) = J := ⟨_, rfl⟩
            have hJl : J.length = A.length + 1 + 0 := by rw [← hJ, List.length_append, HHL.out]; rfl
            have HJl : Kept (J.length = A.length + 1 + 0) := ⟨hJl⟩
            have HJE : Kept (A ++ 10 :: ([] : List Int) = J) := ⟨by rw [← hJ, ← HHD.out]; simp⟩
            have HJO : Kept (OwnB wH wr (A.length + 1 + 0) (A.length + 1 + 0) J) := ⟨by have h9 := HK.out; simpa [← hJ] using h9⟩
            have HYJ : Kept (∀ x ∈ J, 0 ≤ x ∧ x ≤ 255) := ⟨by
              intro x hx
              rw [← HJE.out] at hx
              rcases List.mem_append.1 hx with h | h
              · exact HYA.out x h
              · rcases List.mem_cons.1 h with h | h
                · omega
                · exact HYB.out x h⟩
            have HYH : Kept (∀ x ∈ Hd, 0 ≤ x ∧ x ≤ 255) := ⟨fun x hx => HYJ.out x (by rw [← hJ]; exact List.mem_append_left _ hx)⟩
            have HRJ : Kept (ByteRow wr wr.heap.size (some ⟨wH.heap.size, 0, none⟩) J) := ⟨HJO.out.row⟩
            have HRHr : Kept (ByteRow wr wr.heap.size (some ⟨w.heap.size, 0, none⟩) Hd) := ⟨HRH.out.later HJO.out.below⟩
            have HRBr : Kept (ByteRow wr wr.heap.size none ([] : List Int)) := ⟨HRB2.out.later HJO.out.below⟩
            have HBr : Kept (Below w.heap.size w wr) := ⟨HBH.out.trans (HJO.out.below.mono HBH.out.size)⟩
            have hcut : (∃ l1, sk false Hd line = (-1, [], l1) ∧ sk false J line = sk false ([] : List Int) l1) ∨ (∃ c r l1, c ≠ -1 ∧ r ≠ [] ∧ sk false Hd line = (c, r, l1) ∧ sk false J line = (c, r ++ ([] : List Int), l1)) := by
              have h9 := sk_cut ([] : List Int) A false line HYA.out
              rw [HHD.out] at h9
              rw [show J = Hd by rw [← hJ]; simp]
              exact h9
            have HCUT := Kept.mk hcut
            clear hJ hJl HK HJO HRH HRB2 HBH hcut
            go_wp2_with fail
            rcases HCUT.out with ⟨l1, e1, e2⟩ | ⟨c1, r1, l1, hc1, hr1, e1, e2⟩
            · have HE1 : Kept (sk false Hd line = (-1, [], l1)) := ⟨e1⟩
              obtain ⟨c, r, l, h3⟩ : ∃ c r l, sk false ([] : List Int) l1 = (c, r, l) := ⟨_, _, _, rfl⟩
              have HE3 : Kept (sk false ([] : List Int) l1 = (c, r, l)) := ⟨h3⟩
              have HE2 : Kept (sk false J line = (c, r, l)) := ⟨by rw [e2, h3]⟩
              clear e1 e2 h3 HCUT
              refine (zzSkip_val _ Hd [] _ _ line (-1) l1 wr HHL.out.symm HRHr.out (by rw [HHL.out]; exact Nat.le_refl _) (by rw [HHL.out]; omega) HYH.out HE1.out).mono ?_
              rintro e u1 ⟨a1, cap1, hout⟩
              obtain rfl := hout.ret
              have hbel := hout.below
              have HR1 : Kept (ByteRow u1 u1.heap.size a1 []) := ⟨hout.row.below (Below.refl _ _) hout.below.size⟩
              have HR1L : Kept (([] : List Int).length ≤ cap1) := ⟨hout.len⟩
              clear hout
              replace HRJ : Kept (ByteRow u1 u1.heap.size (some ⟨wH.heap.size, 0, none⟩) J) := ⟨HRJ.out.later hbel⟩
              replace HRBr : Kept (ByteRow u1 u1.heap.size none ([] : List Int)) := ⟨HRBr.out.later hbel⟩
              replace HBr : Kept (Below w.heap.size w u1) := ⟨HBr.out.trans (hbel.mono HBr.out.size)⟩
              clear hbel
              go_wp2_with fail
              refine (zzSkip_val _ J r _ _ line c l u1 HJl.out.symm HRJ.out (by rw [HJl.out]; exact Nat.le_refl _) (by rw [HJl.out]; omega) HYJ.out HE2.out).mono ?_
              rintro e u2 ⟨a2, cap2, hout⟩
              obtain rfl := hout.ret
              have hbel := hout.below
              have HR2 : Kept (ByteRow u2 u2.heap.size a2 r) := ⟨hout.row.below (Below.refl _ _) hout.below.size⟩
              have HR2L : Kept ((r : List Int).length ≤ cap2) := ⟨hout.len⟩
              clear hout
              replace HRJ : Kept (ByteRow u2 u2.heap.size (some ⟨wH.heap.size, 0, none⟩) J) := ⟨HRJ.out.later hbel⟩
              replace HRBr : Kept (ByteRow u2 u2.heap.size none ([] : List Int)) := ⟨HRBr.out.later hbel⟩
              replace HBr : Kept (Below w.heap.size w u2) := ⟨HBr.out.trans (hbel.mono HBr.out.size)⟩
              clear hbel
              rcases sk_before J false line c r l HE2.out with ⟨rfl, rfl⟩ | ⟨pre, hpre⟩
              · have HRS : Kept (([] : List Int).length ≤ 1048576) := ⟨by simp⟩
                go_wp2_with fail
                refine (zzSkip_val _ ([] : List Int) [] _ _ l1 (-1) l u2 rfl HRBr.out (Nat.le_refl _) (by simp) HYB.out HE3.out).mono ?_
                rintro e u3 ⟨a3, cap3, hout⟩
                obtain rfl := hout.ret
                have hbel := hout.below
                have HR3 : Kept (ByteRow u3 u3.heap.size a3 []) := ⟨hout.row.below (Below.refl _ _) hout.below.size⟩
                have HR3L : Kept (([] : List Int).length ≤ cap3) := ⟨hout.len⟩
                clear hout
                replace HRJ : Kept (ByteRow u3 u3.heap.size (some ⟨wH.heap.size, 0, none⟩) J) := ⟨HRJ.out.later hbel⟩
                replace HR2 : Kept (ByteRow u3 u3.heap.size a2 []) := ⟨HR2.out.later hbel⟩
                replace HBr : Kept (Below w.heap.size w u3) := ⟨HBr.out.trans (hbel.mono HBr.out.size)⟩
                clear hbel
                go_wp2_with fail
                refine (same_val _ _ _ _ [] [] _ _ u3 u3.heap.size rfl rfl HR2.out HR3.out HRS.out rfl).mono ?_
                rintro e u4 ⟨rfl, q, rfl⟩
                go_wp2_with fail
                go_ret
                exact ⟨rfl, below_drewN HBr.out q⟩
              · have HRS : Kept (r.length ≤ 1048576) := ⟨by have h9 := HJl.out; rw [hpre] at h9; simp at h9; omega⟩
                have HPRE := Kept.mk hpre
                have hcb : 0 ≤ c ∧ c ≤ 255 := HYJ.out c (by rw [hpre]; simp)
                obtain ⟨hcb0, hcb1⟩ := hcb
                have hrl : r.length < A.length + 1 := by have h9 := HJl.out; rw [hpre] at h9; simp at h9; omega
                have hcm : (c == -1) = false := beq_eq_false_iff_ne.2 (by omega)
                have hcell : u2.cell? ⟨wH.heap.size, A.length + 1 - r.length - 1, none⟩ = some (.int .u8 c) := by
                  have hpl : A.length + 1 - r.length - 1 = pre.length := by have h9 := HJl.out; rw [hpre] at h9; simp at h9; omega
                  obtain ⟨blk, off, hab, h9⟩ := HRJ.out.at (k := pre.length) (by rw [hpre]; simp)
                  simp only [Option.some.injEq, Addr.mk.injEq, and_true] at hab
                  obtain ⟨rfl, rfl⟩ := hab
                  rw [Nat.zero_add, hpre] at h9
                  rw [hpl, h9]
                  simp [List.getD]
                clear hpre
                go_wp2_with fail
                refine (zzSkip_val _ ([] : List Int) r _ _ l1 c l u2 rfl HRBr.out (Nat.le_refl _) (by simp) HYB.out HE3.out).mono ?_
                rintro e u3 ⟨a3, cap3, hout⟩
                obtain rfl := hout.ret
                have hbel := hout.below
                have HR3 : Kept (ByteRow u3 u3.heap.size a3 r) := ⟨hout.row.below (Below.refl _ _) hout.below.size⟩
                have HR3L : Kept ((r : List Int).length ≤ cap3) := ⟨hout.len⟩
                clear hout
                replace HRJ : Kept (ByteRow u3 u3.heap.size (some ⟨wH.heap.size, 0, none⟩) J) := ⟨HRJ.out.later hbel⟩
                replace HR2 : Kept (ByteRow u3 u3.heap.size a2 r) := ⟨HR2.out.later hbel⟩
                replace HBr : Kept (Below w.heap.size w u3) := ⟨HBr.out.trans (hbel.mono HBr.out.size)⟩
                clear hbel
                go_wp2_with fail
                refine (same_val _ _ _ _ r r _ _ u3 u3.heap.size rfl rfl HR2.out HR3.out HRS.out rfl).mono ?_
                rintro e u4 ⟨rfl, q, rfl⟩
                go_wp2_with fail
                go_ret
                exact ⟨rfl, below_drewN HBr.out q⟩
            · obtain ⟨r, hr⟩ : ∃ r, r1 ++ ([] : List Int) = r := ⟨_, rfl⟩
              rw [hr] at e2
              have HE1 : Kept (sk false Hd line = (c1, r1, l1)) := ⟨e1⟩
              have HE2 : Kept (sk false J line = (c1, r, l1)) := ⟨e2⟩
              have HRE : Kept (r1 ++ ([] : List Int) = r) := ⟨hr⟩
              have hlr : r.length = r1.length + 0 := by rw [← hr]; simp
              have HLR : Kept (r.length = r1.length + 0) := ⟨hlr⟩
              have hlb : ((r.length : Int) != (r1.length : Int)) = false := by rw [hlr]; simp
              have hlri : r1.length ≤ r.length := by omega
              have HN1 : Kept (r1 ≠ []) := ⟨hr1⟩
              have HC1 : Kept (c1 ≠ -1) := ⟨hc1⟩
              obtain ⟨pre, hpre⟩ : ∃ pre, J = pre ++ c1 :: r := by
                rcases sk_before J false line c1 r l1 e2 with ⟨h9, _⟩ | h9
                · exact absurd h9 hc1
                · exact h9
              have HRS : Kept (r.length ≤ 1048576) := ⟨by have h9 := HJl.out; rw [hpre] at h9; simp at h9; omega⟩
              have HPRE0 := Kept.mk hpre
              clear e1 e2 HCUT hr1 hc1 hr hlr hpre
              refine (zzSkip_val _ Hd r1 _ _ line c1 l1 wr HHL.out.symm HRHr.out (by rw [HHL.out]; exact Nat.le_refl _) (by rw [HHL.out]; omega) HYH.out HE1.out).mono ?_
              rintro e u1 ⟨a1, cap1, hout⟩
              obtain rfl := hout.ret
              have hbel := hout.below
              have HR1 : Kept (ByteRow u1 u1.heap.size a1 r1) := ⟨hout.row.below (Below.refl _ _) hout.below.size⟩
              have HR1L : Kept ((r1 : List Int).length ≤ cap1) := ⟨hout.len⟩
              clear hout
              replace HRJ : Kept (ByteRow u1 u1.heap.size (some ⟨wH.heap.size, 0, none⟩) J) := ⟨HRJ.out.later hbel⟩
              replace HRBr : Kept (ByteRow u1 u1.heap.size none ([] : List Int)) := ⟨HRBr.out.later hbel⟩
              replace HBr : Kept (Below w.heap.size w u1) := ⟨HBr.out.trans (hbel.mono HBr.out.size)⟩
              clear hbel
              go_wp2_with fail
              refine (zzSkip_val _ J r _ _ line c1 l1 u1 HJl.out.symm HRJ.out (by rw [HJl.out]; exact Nat.le_refl _) (by rw [HJl.out]; omega) HYJ.out HE2.out).mono ?_
              rintro e u2 ⟨a2, cap2, hout⟩
              obtain rfl := hout.ret
              have hbel := hout.below
              have HR2 : Kept (ByteRow u2 u2.heap.size a2 r) := ⟨hout.row.below (Below.refl _ _) hout.below.size⟩
              have HR2L : Kept ((r : List Int).length ≤ cap2) := ⟨hout.len⟩
              clear hout
              replace HRJ : Kept (ByteRow u2 u2.heap.size (some ⟨wH.heap.size, 0, none⟩) J) := ⟨HRJ.out.later hbel⟩
              replace HRBr : Kept (ByteRow u2 u2.heap.size none ([] : List Int)) := ⟨HRBr.out.later hbel⟩
              replace HR1 : Kept (ByteRow u2 u2.heap.size a1 r1) := ⟨HR1.out.later hbel⟩
              replace HBr : Kept (Below w.heap.size w u2) := ⟨HBr.out.trans (hbel.mono HBr.out.size)⟩
              clear hbel
              obtain ⟨blk, off, rfl, _⟩ := HR2.out.at (k := 0) (by have h9 := HLR.out; have h8 : r1.length ≠ 0 := fun h => HN1.out (List.eq_nil_of_length_eq_zero h); omega)
              have hpre := HPRE0.out
              have HPRE := Kept.mk hpre
              have hcb : 0 ≤ c1 ∧ c1 ≤ 255 := HYJ.out c1 (by rw [hpre]; simp)
              obtain ⟨hcb0, hcb1⟩ := hcb
              have hrl : r.length < A.length + 1 := by have h9 := HJl.out; rw [hpre] at h9; simp at h9; omega
              have hcm : (c1 == -1) = false := beq_eq_false_iff_ne.2 (by omega)
              have hcell : u2.cell? ⟨wH.heap.size, A.length + 1 - r.length - 1, none⟩ = some (.int .u8 c1) := by
                have hpl : A.length + 1 - r.length - 1 = pre.length := by have h9 := HJl.out; rw [hpre] at h9; simp at h9; omega
                obtain ⟨blk, off, hab, h9⟩ := HRJ.out.at (k := pre.length) (by rw [hpre]; simp)
                simp only [Option.some.injEq, Addr.mk.injEq, and_true] at hab
                obtain ⟨rfl, rfl⟩ := hab
                rw [Nat.zero_add, hpre] at h9
                rw [hpl, h9]
                simp [List.getD]
              clear hpre
              have HPR : Kept (ByteRow u2 u2.heap.size (some ⟨blk, off, none⟩) r1) := ⟨HR2.out.pre r1 ([] : List Int) HRE.out⟩
              have HSU : Kept (ByteRow u2 u2.heap.size (some ⟨blk, off + r1.length, none⟩) ([] : List Int)) := ⟨HR2.out.suf r1 ([] : List Int) HRE.out⟩
              have hcl := HR2L.out
              by_cases hcap : cap2 = r1.length
              · subst hcap

                go_wp2_with fail
                refine (same_val _ _ _ _ r1 r1 _ _ u2 u2.heap.size rfl rfl HPR.out HR1.out (by omega) rfl).mono ?_
                rintro e u4 ⟨rfl, q, rfl⟩
                go_wp2_with fail
                refine (same_val _ _ _ _ ([] : List Int) ([] : List Int) _ _ _ u2.heap.size (by have h9 := HLR.out; have h8 := HR2L.out; first | omega | (simp; done) | (simp; omega)) rfl (.inl rfl) (HRBr.out.drewN q) (by simp) rfl).mono ?_
                rintro e u5 ⟨rfl, q2, rfl⟩
                go_wp2_with fail
                go_ret
                exact ⟨rfl, below_drewN HBr.out _⟩
              · go_wp2_with fail
                refine (same_val _ _ _ _ r1 r1 _ _ u2 u2.heap.size rfl rfl HPR.out HR1.out (by omega) rfl).mono ?_
                rintro e u4 ⟨rfl, q, rfl⟩
                go_wp2_with fail
                refine (same_val _ _ _ _ ([] : List Int) ([] : List Int) _ _ _ u2.heap.size (by have h9 := HLR.out; first | omega | (simp; done) | (simp; omega)) rfl (HSU.out.drewN q) (HRBr.out.drewN q) (by simp) rfl).mono ?_
                rintro e u5 ⟨rfl, q2, rfl⟩
                go_wp2_with fail
                go_ret
                exact ⟨rfl, below_drewN HBr.out _⟩

end Cfg
end Go.Proofs.Qxb6617867a
