import Derived.Test.Qxb6617867aStopsWalk
namespace Go.Proofs.Qxb6617867a
open Go.RowKit
namespace Cfg

set_option maxRecDepth 100000 in
set_option maxHeartbeats 800000 in
/-- the nil text -/
theorem stops_nil (line : Int) (w : World) :
    Calls Try.prog 4 #[.slice none 0 0, .int .i64 line] w fun e w' => e = .returned (.bool true) ∧ Below w.heap.size w w' := by
  go_enter Try.func4, Try.ntmps4
  go_wp2_with (first | (go_at_call 9; go_in) | fail)
  go_loop [6, 7] (fun av sv => av = .int .i64 (-1) ∧ sv = .int .i64 0) (fun _ _ => 0)
  case atStart => exact ⟨rfl, rfl⟩
  case round =>
    obtain ⟨rfl, rfl⟩ := hrel
    go_wp2_with fail
    go_loop [11, 12] (fun wv iv => wv = .int .i64 line ∧ iv = .int .i64 0) (fun _ _ => 0)
    case atStart => exact ⟨rfl, rfl⟩
    case round =>
      obtain ⟨rfl, rfl⟩ := hrel
      go_wp2_with fail
      refine (zzSkip_val none [] [] 0 0 line (-1) line w rfl (.inl rfl) (Nat.le_refl _) (by simp) (fun x hx => by simp at hx) rfl).mono ?_
      rintro e9 w9 ⟨a2, cap2, hout⟩
      obtain rfl := hout.ret
      have HB9 : Kept (Below w.heap.size w w9) := ⟨hout.below⟩
      clear hout
      go_wp2_with fail
      go_ret
      exact ⟨rfl, HB9.out⟩
end Cfg
end Go.Proofs.Qxb6617867a
