/-
  FnCoversSplitNegationInsert: the row's proof. The frame is the guide's own, turned to a slice of strings; the walk lies in Qxb6617779aSplitEnds.
-/
import Derived.Test.Qxb6617779aRows
import Derived.WalkKit
import Derived.ProofKit
import Derived.OpenShut
import Derived.ShutString
import Derived.ChangeOld
import Derived.Below
import Derived.SliceStrings
import Derived.Test.Qxb6617779aSplitEnds
namespace Go.Proofs.Qxb6617779a.fnCoversSplitNegationInsert
open Go.ChangeShapes Go.WideShapes Go.ChangeAt Go.RowKit
open Go.ChangeMaps (open_string shut_string)
set_option linter.unusedVariables false

theorem own : ownKnob Try.prog.godebug = none := by kernel_rfl
theorem laidOut : laidOutB Try.prog = true := by kernel_rfl

/-- a slice of strings that came in: nil, or the first strings of a row of 'cap' of them -/
theorem row_of {W : World} {x : Addr} {len cap : Nat} {zs : List ByteArray} (hl : len ≤ cap) (hz : zs.length = cap) (hc : ∀ i, i < zs.length → W.cell? (x.add i) = some (.string (zs.getD i ByteArray.empty))) :
    Mat.StrRow W (some x) (zs.take len) := by
  by_cases h0 : len = 0
  · exact .inl (by simp [h0])
  obtain ⟨b, off, spot⟩ := x
  have hspot : spot = none := by simpa [Addr.add] using World.cell?_spot (hc 0 (by omega))
  subst hspot
  refine .inr ⟨b, off, rfl, fun i hi => ?_⟩
  rw [List.length_take] at hi
  rw [← Go.WideShapes.add_plain, hc i (by omega)]
  simp only [List.getD]
  rw [List.getElem?_take_of_lt (by omega)]

set_option maxRecDepth 100000 in
theorem lifted (os : Os) (started : os.Started) (H : Type) (enc : TypeId × Value → H) :
    ReturnsInHanded {} Try.checked os 4 .any (Rows.fnCoversSplitNegationInsertSpec.pre6 enc Try.prog Try.f4 Rows.fnCoversSplitNegationInsertRow.domain false) (Rows.fnCoversSplitNegationInsertSpec.post enc Try.prog Try.f4 false true false false) := by
  refine returnsInHanded_of_change (C := Try.checked) own started (by kernel_rfl) Try.func4
    (ChangeSpec.witness6 (enc := enc) (C := Try.checked) false ⟨#[], #[.bool false, .slice none 0 0, .string ByteArray.empty, .int .i64 0], []⟩ 8 (by kernel_rfl) (by kernel_rfl) (by kernel_rfl) (by kernel_rfl)) ?_
  intro W base args ds gs before hval0 hW hcnd _
  have hval : ∀ (j : Nat) t v, Try.f4.params[j]? = some t → args[j]? = some v → Value.okWide Try.prog W .any base t v := hval0
  have hW' := hW
  obtain ⟨p, q, hA0, hV, rfl, hfz, hnd⟩ := hW
  have hA : DataW.TrodAll enc Try.prog W 0 (fun _ => true) true Try.f4.params.toList args.toList ds p := hA0
  rw [Try.params4] at hA hval
  obtain ⟨v0, vs0, d0, ds0, p0, q0, hargs, rfl, rfl, h0, r0⟩ := trodAll_cons hA
  obtain ⟨v1, vs1, d1, ds1, p1, q1, rfl, rfl, rfl, h1, r1⟩ := trodAll_cons r0
  obtain ⟨v2, vs2, d2, ds2, p2, q2, rfl, rfl, rfl, h2, r2⟩ := trodAll_cons r1
  obtain ⟨v3, vs3, d3, ds3, p3, q3, rfl, rfl, rfl, h3, r3⟩ := trodAll_cons r2
  obtain ⟨rfl, rfl, rfl⟩ := trodAll_nil r3
  obtain rfl : args = #[v0, v1, v2, v3] := by cases args; simp_all
  obtain ⟨rfl, rfl⟩ := trodVars_none hV
  obtain ⟨a0, rfl, rfl, rfl⟩ := open_bool Try.underlying4 (hval 0 4 v0 rfl rfl) h0
  obtain ⟨x1, len1, cap1, rfl⟩ := okWide_slice Try.underlying27 (hval 1 27 v1 rfl rfl)
  have k1 := h1
  have lt1 : ∀ x ∈ p1, x.block < W.heap.size := by obtain ⟨m, hm⟩ := k1; exact DataW.trod_lt m _ _ _ hm
  obtain ⟨ss, hlen, hrow, hnil, hlm, hsz⟩ : ∃ ss : List ByteArray, ss.length = len1 ∧ Mat.StrRow W x1 ss ∧ (x1 = none → cap1 = 0 ∧ ss = []) ∧ ss.length ≤ maxLen ∧ ∀ s ∈ ss, s.size ≤ maxLen := by
    obtain ⟨fuel, hf⟩ := h1
    rcases open_strings Try.underlying27 Try.underlying9 (by kernel_rfl) hf with ⟨hcs, _⟩ | ⟨x, l, c, zs, hcs, _, hl, hm, hz, _, hcell, hwz⟩
    · simp [Value.cells] at hcs
      obtain ⟨rfl, rfl, rfl⟩ := hcs
      exact ⟨[], rfl, .inl rfl, fun _ => ⟨rfl, rfl⟩, by simp, fun s hs => by simp at hs⟩
    · simp [Value.cells] at hcs
      obtain ⟨rfl, rfl, rfl⟩ := hcs
      have hz' : zs.length = cap1 := by simpa using hz
      refine ⟨zs.take len1, by rw [List.length_take]; omega, row_of hl hz' hcell, (fun h => by cases h), by rw [List.length_take]; omega, fun s hs => ?_⟩
      have := hwz s (List.mem_of_mem_take hs)
      exact this
  subst hlen
  obtain ⟨a2, rfl, rfl, rfl, w2⟩ := open_string Try.underlying9 (hval 2 9 v2 rfl rfl) h2
  obtain ⟨a3, rfl, rfl, rfl, w3⟩ := open_int Try.underlying3 (hval 3 3 v3 rfl rfl) h3
  clear hA0 hval0
  refine (Mat.split_any a0 x1 cap1 ss a2 a3 W hrow hnil hlm hsz w2).mono fun e W' ⟨he, bel⟩ => ?_
  subst he
  exact ⟨_, rfl, _, _, _, [], _, [], hW', trodAll_mk1 (shut_bool Try.underlying4 _), (trodAll_cons_mk (shut_bool Try.underlying4 _) (trodAll_cons_mk (Below.trod laidOut (by kernel_rfl) (of_decide_eq_true (by kernel_rfl)) k1 bel lt1) (trodAll_cons_mk (shut_string Try.underlying9 w2) (trodAll_cons_mk (shut_int Try.underlying3 w3) trodAll_mk0)))), rfl, bel.frame _, fun h => by cases h⟩

theorem over : Rows.fnCoversSplitNegationInsertRow.holds Try.pinned (OpenSpec.ofChange Rows.fnCoversSplitNegationInsertSpec) :=
  OpenClaim.holds_of_wide 4 Try.f4 rfl rfl rfl rfl rfl rfl rfl ⟨rfl, rfl, rfl, rfl, rfl⟩ rfl rfl rfl rfl rfl (by kernel_rfl) Try.func4 (by kernel_rfl)
    (of_decide_eq_true (by kernel_rfl)) (by unfold Func.isWrapper; first | (rw [if_pos (by decide +kernel)]; kernel_rfl) | (rw [if_neg (by decide +kernel)]; exact ⟨rfl, rfl⟩))
    (fun os started H enc _ => lifted os started H enc)

/-- ████ THE STATEMENT ████ -/
theorem proved : Rows.FnCoversSplitNegationInsertSaid := over
#print axioms proved
end Go.Proofs.Qxb6617779a.fnCoversSplitNegationInsert
