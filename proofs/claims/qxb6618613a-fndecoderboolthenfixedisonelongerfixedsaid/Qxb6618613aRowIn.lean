import Derived.Test.Qxb6618613aDec
import Derived.OpenShut
namespace Go.Proofs.Qxb6618613a
open Go.RowKit
namespace Dec

/-- what the shell tells of a []byte that came in, in this seat's words -/
theorem row_in {w : World} {a : Option Addr} {len cap : Nat} {zs : List Int}
    (h : (a = none ∧ len = 0 ∧ cap = 0 ∧ zs = []) ∨ ∃ x, a = some x ∧ len ≤ cap ∧ cap ≤ maxLen ∧ zs.length = cap ∧ (∀ i, i < zs.length → w.cell? (x.add i) = some (.int .u8 (zs.getD i 0))) ∧ ∀ n ∈ zs, (Lit.int .u8 n).wf = true) :
    ∃ T : List Int, T.length = len ∧ ByteRow w w.heap.size a T ∧ T.length ≤ cap ∧ (∀ x ∈ T, 0 ≤ x ∧ x ≤ 255) ∧ T.length ≤ maxLen ∧ (a = none → cap = 0) := by
  rcases h with ⟨rfl, rfl, rfl, rfl⟩ | ⟨x, rfl, hl, hm, hz, hc, hw⟩
  · exact ⟨[], rfl, .inl rfl, by simp, fun x hx => by simp at hx, by simp, fun _ => rfl⟩
  · refine ⟨zs.take len, by rw [List.length_take]; omega, ?_, by rw [List.length_take]; omega, fun y hy => bounds_u8 (hw y (List.mem_of_mem_take hy)), by rw [List.length_take]; omega, fun h => by cases h⟩
    by_cases h0 : len = 0
    · exact .inl (by simp [h0])
    obtain ⟨b, off, spot⟩ := x
    have h00 := hc 0 (by omega)
    have hspot : spot = none := by simpa [Addr.add] using World.cell?_spot h00
    subst hspot
    have hadd : ∀ i, (⟨b, off, none⟩ : Addr).add i = ⟨b, off + i, none⟩ := fun i => Addr.add_lit ..
    rw [hadd] at h00
    refine .inr ⟨b, off, rfl, World.block_lt_of_cell? w _ h00, fun i hi => ?_⟩
    rw [List.length_take] at hi
    have h1 := hc i (by omega)
    rw [hadd] at h1
    rw [h1]
    simp only [List.getD]
    rw [List.getElem?_take_of_lt (by omega)]
end Dec
end Go.Proofs.Qxb6618613a
