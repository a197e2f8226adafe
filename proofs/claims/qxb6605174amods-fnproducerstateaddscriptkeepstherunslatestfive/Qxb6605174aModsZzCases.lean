/- ZZProducerStateAdd, case by case. -/
import Derived.Test.Qxb6605174aModsZzWalk
import Derived.Test.Qxb6605174aModsAddWalks
namespace Go.Proofs.Qxb6605174aMods.Add
open Go.RowKit

theorem zzZero (W : World) (e s0 s1 s2 s3 s4 r0 r1 r2 r3 r4 o0 o1 o2 o3 o4 la he hs hr bo at_ : Int) :
    Calls Trym.prog 8 #[.int .i16 e, .int .i8 0, .agg #[.int .i32 s0, .int .i32 s1, .int .i32 s2, .int .i32 s3, .int .i32 s4], .agg #[.int .i32 r0, .int .i32 r1, .int .i32 r2, .int .i32 r3, .int .i32 r4], .agg #[.int .i64 o0, .int .i64 o1, .int .i64 o2, .int .i64 o3, .int .i64 o4], .int .i64 la, .int .i16 he, .int .i32 hs, .int .i32 hr, .int .i64 bo, .int .i64 at_]
      W fun en w' => en = .returned (.tuple #[.int .i16 he, .int .i8 1, .agg #[.int .i32 hs, .int .i32 0, .int .i32 0, .int .i32 0, .int .i32 0], .agg #[.int .i32 hr, .int .i32 0, .int .i32 0, .int .i32 0, .int .i32 0], .agg #[.int .i64 bo, .int .i64 0, .int .i64 0, .int .i64 0, .int .i64 0], .int .i64 at_]) ∧ Below W.heap.size W w' := by
  refine zz W e 0 s0 s1 s2 s3 s4 r0 r1 r2 r3 r4 o0 o1 o2 o3 o4 la he hs hr bo at_ he 1 hs 0 0 0 0 hr 0 0 0 0 bo 0 0 0 0 at_ ?_
  intro X Y g k hg hY
  subst hg hY
  exact addZero X k e s0 s1 s2 s3 s4 r0 r1 r2 r3 r4 o0 o1 o2 o3 o4 la he hs hr bo at_

theorem zzTurn (W : World) (e n s0 s1 s2 s3 s4 r0 r1 r2 r3 r4 o0 o1 o2 o3 o4 la he hs hr bo at_ : Int) (hn : (n == 0) = false) (hh : (he != e) = true) :
    Calls Trym.prog 8 #[.int .i16 e, .int .i8 n, .agg #[.int .i32 s0, .int .i32 s1, .int .i32 s2, .int .i32 s3, .int .i32 s4], .agg #[.int .i32 r0, .int .i32 r1, .int .i32 r2, .int .i32 r3, .int .i32 r4], .agg #[.int .i64 o0, .int .i64 o1, .int .i64 o2, .int .i64 o3, .int .i64 o4], .int .i64 la, .int .i16 he, .int .i32 hs, .int .i32 hr, .int .i64 bo, .int .i64 at_]
      W fun en w' => en = .returned (.tuple #[.int .i16 he, .int .i8 1, .agg #[.int .i32 hs, .int .i32 0, .int .i32 0, .int .i32 0, .int .i32 0], .agg #[.int .i32 hr, .int .i32 0, .int .i32 0, .int .i32 0, .int .i32 0], .agg #[.int .i64 bo, .int .i64 0, .int .i64 0, .int .i64 0, .int .i64 0], .int .i64 at_]) ∧ Below W.heap.size W w' := by
  refine zz W e n s0 s1 s2 s3 s4 r0 r1 r2 r3 r4 o0 o1 o2 o3 o4 la he hs hr bo at_ he 1 hs 0 0 0 0 hr 0 0 0 0 bo 0 0 0 0 at_ ?_
  intro X Y g k hg hY
  subst hg hY
  exact addTurn X k e n s0 s1 s2 s3 s4 r0 r1 r2 r3 r4 o0 o1 o2 o3 o4 la he hs hr bo at_ hn hh

theorem zz1 (W : World) (e s0 s1 s2 s3 s4 r0 r1 r2 r3 r4 o0 o1 o2 o3 o4 la hs hr bo at_ : Int) :
    Calls Trym.prog 8 #[.int .i16 e, .int .i8 1, .agg #[.int .i32 s0, .int .i32 s1, .int .i32 s2, .int .i32 s3, .int .i32 s4], .agg #[.int .i32 r0, .int .i32 r1, .int .i32 r2, .int .i32 r3, .int .i32 r4], .agg #[.int .i64 o0, .int .i64 o1, .int .i64 o2, .int .i64 o3, .int .i64 o4], .int .i64 la, .int .i16 e, .int .i32 hs, .int .i32 hr, .int .i64 bo, .int .i64 at_]
      W fun en w' => en = .returned (.tuple #[.int .i16 e, .int .i8 2, .agg #[.int .i32 s0, .int .i32 hs, .int .i32 s2, .int .i32 s3, .int .i32 s4], .agg #[.int .i32 r0, .int .i32 hr, .int .i32 r2, .int .i32 r3, .int .i32 r4], .agg #[.int .i64 o0, .int .i64 bo, .int .i64 o2, .int .i64 o3, .int .i64 o4], .int .i64 at_]) ∧ Below W.heap.size W w' := by
  refine zz W e 1 s0 s1 s2 s3 s4 r0 r1 r2 r3 r4 o0 o1 o2 o3 o4 la e hs hr bo at_ e 2 s0 hs s2 s3 s4 r0 hr r2 r3 r4 o0 bo o2 o3 o4 at_ ?_
  intro X Y g k hg hY
  subst hg hY
  exact add1 X k e s0 s1 s2 s3 s4 r0 r1 r2 r3 r4 o0 o1 o2 o3 o4 la hs hr bo at_

theorem zz2 (W : World) (e s0 s1 s2 s3 s4 r0 r1 r2 r3 r4 o0 o1 o2 o3 o4 la hs hr bo at_ : Int) :
    Calls Trym.prog 8 #[.int .i16 e, .int .i8 2, .agg #[.int .i32 s0, .int .i32 s1, .int .i32 s2, .int .i32 s3, .int .i32 s4], .agg #[.int .i32 r0, .int .i32 r1, .int .i32 r2, .int .i32 r3, .int .i32 r4], .agg #[.int .i64 o0, .int .i64 o1, .int .i64 o2, .int .i64 o3, .int .i64 o4], .int .i64 la, .int .i16 e, .int .i32 hs, .int .i32 hr, .int .i64 bo, .int .i64 at_]
      W fun en w' => en = .returned (.tuple #[.int .i16 e, .int .i8 3, .agg #[.int .i32 s0, .int .i32 s1, .int .i32 hs, .int .i32 s3, .int .i32 s4], .agg #[.int .i32 r0, .int .i32 r1, .int .i32 hr, .int .i32 r3, .int .i32 r4], .agg #[.int .i64 o0, .int .i64 o1, .int .i64 bo, .int .i64 o3, .int .i64 o4], .int .i64 at_]) ∧ Below W.heap.size W w' := by
  refine zz W e 2 s0 s1 s2 s3 s4 r0 r1 r2 r3 r4 o0 o1 o2 o3 o4 la e hs hr bo at_ e 3 s0 s1 hs s3 s4 r0 r1 hr r3 r4 o0 o1 bo o3 o4 at_ ?_
  intro X Y g k hg hY
  subst hg hY
  exact add2 X k e s0 s1 s2 s3 s4 r0 r1 r2 r3 r4 o0 o1 o2 o3 o4 la hs hr bo at_

theorem zz3 (W : World) (e s0 s1 s2 s3 s4 r0 r1 r2 r3 r4 o0 o1 o2 o3 o4 la hs hr bo at_ : Int) :
    Calls Trym.prog 8 #[.int .i16 e, .int .i8 3, .agg #[.int .i32 s0, .int .i32 s1, .int .i32 s2, .int .i32 s3, .int .i32 s4], .agg #[.int .i32 r0, .int .i32 r1, .int .i32 r2, .int .i32 r3, .int .i32 r4], .agg #[.int .i64 o0, .int .i64 o1, .int .i64 o2, .int .i64 o3, .int .i64 o4], .int .i64 la, .int .i16 e, .int .i32 hs, .int .i32 hr, .int .i64 bo, .int .i64 at_]
      W fun en w' => en = .returned (.tuple #[.int .i16 e, .int .i8 4, .agg #[.int .i32 s0, .int .i32 s1, .int .i32 s2, .int .i32 hs, .int .i32 s4], .agg #[.int .i32 r0, .int .i32 r1, .int .i32 r2, .int .i32 hr, .int .i32 r4], .agg #[.int .i64 o0, .int .i64 o1, .int .i64 o2, .int .i64 bo, .int .i64 o4], .int .i64 at_]) ∧ Below W.heap.size W w' := by
  refine zz W e 3 s0 s1 s2 s3 s4 r0 r1 r2 r3 r4 o0 o1 o2 o3 o4 la e hs hr bo at_ e 4 s0 s1 s2 hs s4 r0 r1 r2 hr r4 o0 o1 o2 bo o4 at_ ?_
  intro X Y g k hg hY
  subst hg hY
  exact add3 X k e s0 s1 s2 s3 s4 r0 r1 r2 r3 r4 o0 o1 o2 o3 o4 la hs hr bo at_

theorem zz4 (W : World) (e s0 s1 s2 s3 s4 r0 r1 r2 r3 r4 o0 o1 o2 o3 o4 la hs hr bo at_ : Int) :
    Calls Trym.prog 8 #[.int .i16 e, .int .i8 4, .agg #[.int .i32 s0, .int .i32 s1, .int .i32 s2, .int .i32 s3, .int .i32 s4], .agg #[.int .i32 r0, .int .i32 r1, .int .i32 r2, .int .i32 r3, .int .i32 r4], .agg #[.int .i64 o0, .int .i64 o1, .int .i64 o2, .int .i64 o3, .int .i64 o4], .int .i64 la, .int .i16 e, .int .i32 hs, .int .i32 hr, .int .i64 bo, .int .i64 at_]
      W fun en w' => en = .returned (.tuple #[.int .i16 e, .int .i8 5, .agg #[.int .i32 s0, .int .i32 s1, .int .i32 s2, .int .i32 s3, .int .i32 hs], .agg #[.int .i32 r0, .int .i32 r1, .int .i32 r2, .int .i32 r3, .int .i32 hr], .agg #[.int .i64 o0, .int .i64 o1, .int .i64 o2, .int .i64 o3, .int .i64 bo], .int .i64 at_]) ∧ Below W.heap.size W w' := by
  refine zz W e 4 s0 s1 s2 s3 s4 r0 r1 r2 r3 r4 o0 o1 o2 o3 o4 la e hs hr bo at_ e 5 s0 s1 s2 s3 hs r0 r1 r2 r3 hr o0 o1 o2 o3 bo at_ ?_
  intro X Y g k hg hY
  subst hg hY
  exact add4 X k e s0 s1 s2 s3 s4 r0 r1 r2 r3 r4 o0 o1 o2 o3 o4 la hs hr bo at_

theorem zz5 (W : World) (e s0 s1 s2 s3 s4 r0 r1 r2 r3 r4 o0 o1 o2 o3 o4 la hs hr bo at_ : Int) :
    Calls Trym.prog 8 #[.int .i16 e, .int .i8 5, .agg #[.int .i32 s0, .int .i32 s1, .int .i32 s2, .int .i32 s3, .int .i32 s4], .agg #[.int .i32 r0, .int .i32 r1, .int .i32 r2, .int .i32 r3, .int .i32 r4], .agg #[.int .i64 o0, .int .i64 o1, .int .i64 o2, .int .i64 o3, .int .i64 o4], .int .i64 la, .int .i16 e, .int .i32 hs, .int .i32 hr, .int .i64 bo, .int .i64 at_]
      W fun en w' => en = .returned (.tuple #[.int .i16 e, .int .i8 5, .agg #[.int .i32 s1, .int .i32 s2, .int .i32 s3, .int .i32 s4, .int .i32 hs], .agg #[.int .i32 r1, .int .i32 r2, .int .i32 r3, .int .i32 r4, .int .i32 hr], .agg #[.int .i64 o1, .int .i64 o2, .int .i64 o3, .int .i64 o4, .int .i64 bo], .int .i64 at_]) ∧ Below W.heap.size W w' := by
  refine zz W e 5 s0 s1 s2 s3 s4 r0 r1 r2 r3 r4 o0 o1 o2 o3 o4 la e hs hr bo at_ e 5 s1 s2 s3 s4 hs r1 r2 r3 r4 hr o1 o2 o3 o4 bo at_ ?_
  intro X Y g k hg hY
  subst hg hY
  exact add5 X k e s0 s1 s2 s3 s4 r0 r1 r2 r3 r4 o0 o1 o2 o3 o4 la hs hr bo at_
end Go.Proofs.Qxb6605174aMods.Add
