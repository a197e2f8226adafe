/- The law FnProducerStateAddKeepsTheLatestFiveOfTheEpoch: the cases joined. -/
import Derived.Test.Qxb6605174aModsKeepsA
import Derived.Test.Qxb6605174aModsKeepsB
namespace Go.Proofs.Qxb6605174aMods.Add
open Go.RowKit

set_option maxRecDepth 100000 in
set_option maxHeartbeats 1000000 in
theorem keepsOut (W : World) (e n s0 s1 s2 s3 s4 r0 r1 r2 r3 r4 o0 o1 o2 o3 o4 la he hs hr bo at_ : Int) (hn : n < 0 ∨ 5 < n) :
    Calls Trym.prog 5 #[.int .i16 e, .int .i8 n, .agg #[.int .i32 s0, .int .i32 s1, .int .i32 s2, .int .i32 s3, .int .i32 s4], .agg #[.int .i32 r0, .int .i32 r1, .int .i32 r2, .int .i32 r3, .int .i32 r4], .agg #[.int .i64 o0, .int .i64 o1, .int .i64 o2, .int .i64 o3, .int .i64 o4], .int .i64 la, .int .i16 he, .int .i32 hs, .int .i32 hr, .int .i64 bo, .int .i64 at_]
      W fun en w' => en = .returned (.bool true) ∧ Below W.heap.size W w' := by
  rcases hn with hn | hn
  all_goals
    go_enter Trym.func5, Trym.ntmps5
    go_wp2
    go_ret
    exact ⟨rfl, Below.alloc (Below.alloc (Below.alloc (Below.refl _ _) (Nat.le_refl _) _) (by simp) _) (by simp only [World.size_alloc]; omega) _⟩

theorem keeps (W : World) (e n s0 s1 s2 s3 s4 r0 r1 r2 r3 r4 o0 o1 o2 o3 o4 la he hs hr bo at_ : Int) :
    Calls Trym.prog 5 #[.int .i16 e, .int .i8 n, .agg #[.int .i32 s0, .int .i32 s1, .int .i32 s2, .int .i32 s3, .int .i32 s4], .agg #[.int .i32 r0, .int .i32 r1, .int .i32 r2, .int .i32 r3, .int .i32 r4], .agg #[.int .i64 o0, .int .i64 o1, .int .i64 o2, .int .i64 o3, .int .i64 o4], .int .i64 la, .int .i16 he, .int .i32 hs, .int .i32 hr, .int .i64 bo, .int .i64 at_]
      W fun en w' => en = .returned (.bool true) ∧ Below W.heap.size W w' := by
  by_cases hout : n < 0 ∨ 5 < n
  · exact keepsOut W e n s0 s1 s2 s3 s4 r0 r1 r2 r3 r4 o0 o1 o2 o3 o4 la he hs hr bo at_ hout
  by_cases h0 : n = 0
  · subst h0; exact keepsZero W e s0 s1 s2 s3 s4 r0 r1 r2 r3 r4 o0 o1 o2 o3 o4 la he hs hr bo at_
  by_cases hh : he = e
  · subst hh
    have hn : n = 1 ∨ n = 2 ∨ n = 3 ∨ n = 4 ∨ n = 5 := by omega
    rcases hn with rfl | rfl | rfl | rfl | rfl
    · exact keeps1 W he s0 s1 s2 s3 s4 r0 r1 r2 r3 r4 o0 o1 o2 o3 o4 la hs hr bo at_
    · exact keeps2 W he s0 s1 s2 s3 s4 r0 r1 r2 r3 r4 o0 o1 o2 o3 o4 la hs hr bo at_
    · exact keeps3 W he s0 s1 s2 s3 s4 r0 r1 r2 r3 r4 o0 o1 o2 o3 o4 la hs hr bo at_
    · exact keeps4 W he s0 s1 s2 s3 s4 r0 r1 r2 r3 r4 o0 o1 o2 o3 o4 la hs hr bo at_
    · exact keeps5 W he s0 s1 s2 s3 s4 r0 r1 r2 r3 r4 o0 o1 o2 o3 o4 la hs hr bo at_
  · exact keepsTurn W e n s0 s1 s2 s3 s4 r0 r1 r2 r3 r4 o0 o1 o2 o3 o4 la he hs hr bo at_ (by omega) (by omega) (by simpa using h0) (by simpa using hh)
end Go.Proofs.Qxb6605174aMods.Add
