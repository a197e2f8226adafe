/- The walk of the law FnCutOutsideMatchesDepthAutomaton. -/
import Derived.Test.Qxb6603098aModsOutsideWalks
namespace Go.Proofs.Qxb6603098aMods.fnCutOutsideMatchesDepthAutomaton
open Go.RowKit
open Brace Plain Cut

set_option maxHeartbeats 400000 in
theorem walk (a0 : ByteArray) (a1 : Int) (w0 : a0.size ≤ maxLen) (w1 : (Lit.int .u8 a1).wf = true) (w : World) :
    Calls Trym.prog 5 #[.string a0, .int .u8 a1] w fun e w' => e = .returned (.bool true) ∧ Grown w w' := by
  have hs := w0
  unfold maxLen at w0
  obtain ⟨c, rfl⟩ := byte_of a1 w1
  clear w1
  by_cases hz : a0.size ≤ 1048576
  · go_enter Trym.func5, Trym.ntmps5
    go_wp2_with (first
      | (go_at_call 12; refine (zzoutside_any a0 c _ hs).mono ?_; rintro e w' ⟨rfl, n, rfl⟩)
      | (go_at_call 13; refine (model_any a0 c _ hs).mono ?_; rintro e w' ⟨rfl, m, rfl⟩)
      | (go_at_call 11; go_in))
    go_ret
    exact ⟨rfl, Grown.refl _⟩
  · go_enter Trym.func5, Trym.ntmps5
    go_wp2
    go_ret
    exact ⟨rfl, Grown.refl _⟩
end Go.Proofs.Qxb6603098aMods.fnCutOutsideMatchesDepthAutomaton
