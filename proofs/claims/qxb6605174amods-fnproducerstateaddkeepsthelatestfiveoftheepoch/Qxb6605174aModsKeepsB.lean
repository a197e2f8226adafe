/- The law FnProducerStateAddKeepsTheLatestFiveOfTheEpoch, walked case by case. -/
import Derived.Test.Qxb6605174aModsBehind
import Derived.LoopN
namespace Go.Proofs.Qxb6605174aMods.Add
open Go.RowKit
attribute [local go_sem] setCell_drewN alloc_drewN

set_option maxRecDepth 100000 in
set_option maxHeartbeats 40000000 in
theorem keeps3 (W : World) (e s0 s1 s2 s3 s4 r0 r1 r2 r3 r4 o0 o1 o2 o3 o4 la hs hr bo at_ : Int) :
    Calls Trym.prog 5 #[.int .i16 e, .int .i8 3, .agg #[.int .i32 s0, .int .i32 s1, .int .i32 s2, .int .i32 s3, .int .i32 s4], .agg #[.int .i32 r0, .int .i32 r1, .int .i32 r2, .int .i32 r3, .int .i32 r4], .agg #[.int .i64 o0, .int .i64 o1, .int .i64 o2, .int .i64 o3, .int .i64 o4], .int .i64 la, .int .i16 e, .int .i32 hs, .int .i32 hr, .int .i64 bo, .int .i64 at_]
      W fun en w' => en = .returned (.bool true) ∧ Below W.heap.size W w' := by
  go_enter Trym.func5, Trym.ntmps5
  go_wp2_with fail
  refine (zz3 _ e s0 s1 s2 s3 s4 r0 r1 r2 r3 r4 o0 o1 o2 o3 o4 la hs hr bo at_).mono ?_
  rintro en w1 ⟨rfl, hb⟩
  obtain ⟨z00, z01, z02, z03, z04, z05, z10, z11, z12, z13, z14, z15, z20, z21, z22, z23, z24, z25, c00, c01, c02, c03, c04, c10, c11, c12, c13, c14, c20, c21, c22, c23, c24, hb1⟩ := behind W w1 s0 s1 s2 s3 s4 r0 r1 r2 r3 r4 o0 o1 o2 o3 o4 hb
  have HB : Hid (Below W.heap.size W w1) := hb1
  clear hb hb1
  as_aux_lemma =>
   go_wp2_with fail
   refine wp_loop_rounds 4 ?_
   as_aux_lemma =>
    rw [rounds_succ]
    go_wp2_with fail
    as_aux_lemma =>
     rw [rounds_succ]
     go_wp2_with fail
     as_aux_lemma =>
      rw [rounds_succ]
      go_wp2_with fail
      as_aux_lemma =>
       rw [rounds_succ]
       go_wp2_with fail
       refine wp_loop_rounds 6 ?_
       as_aux_lemma =>
        rw [rounds_succ]
        go_wp2_with fail
        as_aux_lemma =>
         rw [rounds_succ]
         go_wp2_with fail
         as_aux_lemma =>
          rw [rounds_succ]
          go_wp2_with fail
          as_aux_lemma =>
           rw [rounds_succ]
           go_wp2_with fail
           as_aux_lemma =>
            rw [rounds_succ]
            go_wp2_with fail
            as_aux_lemma =>
             rw [rounds_succ]
             go_wp2_with fail
             go_ret
             refine ⟨rfl, ?_⟩
             have hb1 := HB.out
             repeat refine Below.alloc ?_ (by first | omega | (simp only [World.size_alloc]; omega)) _
             exact hb1

set_option maxRecDepth 100000 in
set_option maxHeartbeats 40000000 in
theorem keeps4 (W : World) (e s0 s1 s2 s3 s4 r0 r1 r2 r3 r4 o0 o1 o2 o3 o4 la hs hr bo at_ : Int) :
    Calls Trym.prog 5 #[.int .i16 e, .int .i8 4, .agg #[.int .i32 s0, .int .i32 s1, .int .i32 s2, .int .i32 s3, .int .i32 s4], .agg #[.int .i32 r0, .int .i32 r1, .int .i32 r2, .int .i32 r3, .int .i32 r4], .agg #[.int .i64 o0, .int .i64 o1, .int .i64 o2, .int .i64 o3, .int .i64 o4], .int .i64 la, .int .i16 e, .int .i32 hs, .int .i32 hr, .int .i64 bo, .int .i64 at_]
      W fun en w' => en = .returned (.bool true) ∧ Below W.heap.size W w' := by
  go_enter Trym.func5, Trym.ntmps5
  go_wp2_with fail
  refine (zz4 _ e s0 s1 s2 s3 s4 r0 r1 r2 r3 r4 o0 o1 o2 o3 o4 la hs hr bo at_).mono ?_
  rintro en w1 ⟨rfl, hb⟩
  obtain ⟨z00, z01, z02, z03, z04, z05, z10, z11, z12, z13, z14, z15, z20, z21, z22, z23, z24, z25, c00, c01, c02, c03, c04, c10, c11, c12, c13, c14, c20, c21, c22, c23, c24, hb1⟩ := behind W w1 s0 s1 s2 s3 s4 r0 r1 r2 r3 r4 o0 o1 o2 o3 o4 hb
  have HB : Hid (Below W.heap.size W w1) := hb1
  clear hb hb1
  as_aux_lemma =>
   go_wp2_with fail
   refine wp_loop_rounds 5 ?_
   as_aux_lemma =>
    rw [rounds_succ]
    go_wp2_with fail
    as_aux_lemma =>
     rw [rounds_succ]
     go_wp2_with fail
     as_aux_lemma =>
      rw [rounds_succ]
      go_wp2_with fail
      as_aux_lemma =>
       rw [rounds_succ]
       go_wp2_with fail
       as_aux_lemma =>
        rw [rounds_succ]
        go_wp2_with fail
        refine wp_loop_rounds 6 ?_
        as_aux_lemma =>
         rw [rounds_succ]
         go_wp2_with fail
         as_aux_lemma =>
          rw [rounds_succ]
          go_wp2_with fail
          as_aux_lemma =>
           rw [rounds_succ]
           go_wp2_with fail
           as_aux_lemma =>
            rw [rounds_succ]
            go_wp2_with fail
            as_aux_lemma =>
             rw [rounds_succ]
             go_wp2_with fail
             as_aux_lemma =>
              rw [rounds_succ]
              go_wp2_with fail
              go_ret
              refine ⟨rfl, ?_⟩
              have hb1 := HB.out
              repeat refine Below.alloc ?_ (by first | omega | (simp only [World.size_alloc]; omega)) _
              exact hb1

set_option maxRecDepth 100000 in
set_option maxHeartbeats 40000000 in
theorem keeps5 (W : World) (e s0 s1 s2 s3 s4 r0 r1 r2 r3 r4 o0 o1 o2 o3 o4 la hs hr bo at_ : Int) :
    Calls Trym.prog 5 #[.int .i16 e, .int .i8 5, .agg #[.int .i32 s0, .int .i32 s1, .int .i32 s2, .int .i32 s3, .int .i32 s4], .agg #[.int .i32 r0, .int .i32 r1, .int .i32 r2, .int .i32 r3, .int .i32 r4], .agg #[.int .i64 o0, .int .i64 o1, .int .i64 o2, .int .i64 o3, .int .i64 o4], .int .i64 la, .int .i16 e, .int .i32 hs, .int .i32 hr, .int .i64 bo, .int .i64 at_]
      W fun en w' => en = .returned (.bool true) ∧ Below W.heap.size W w' := by
  go_enter Trym.func5, Trym.ntmps5
  go_wp2_with fail
  refine (zz5 _ e s0 s1 s2 s3 s4 r0 r1 r2 r3 r4 o0 o1 o2 o3 o4 la hs hr bo at_).mono ?_
  rintro en w1 ⟨rfl, hb⟩
  obtain ⟨z00, z01, z02, z03, z04, z05, z10, z11, z12, z13, z14, z15, z20, z21, z22, z23, z24, z25, c00, c01, c02, c03, c04, c10, c11, c12, c13, c14, c20, c21, c22, c23, c24, hb1⟩ := behind W w1 s0 s1 s2 s3 s4 r0 r1 r2 r3 r4 o0 o1 o2 o3 o4 hb
  have HB : Hid (Below W.heap.size W w1) := hb1
  clear hb hb1
  as_aux_lemma =>
   go_wp2_with fail
   refine wp_loop_rounds 6 ?_
   as_aux_lemma =>
    rw [rounds_succ]
    go_wp2_with fail
    as_aux_lemma =>
     rw [rounds_succ]
     go_wp2_with fail
     as_aux_lemma =>
      rw [rounds_succ]
      go_wp2_with fail
      as_aux_lemma =>
       rw [rounds_succ]
       go_wp2_with fail
       as_aux_lemma =>
        rw [rounds_succ]
        go_wp2_with fail
        as_aux_lemma =>
         rw [rounds_succ]
         go_wp2_with fail
         refine wp_loop_rounds 6 ?_
         as_aux_lemma =>
          rw [rounds_succ]
          go_wp2_with fail
          as_aux_lemma =>
           rw [rounds_succ]
           go_wp2_with fail
           as_aux_lemma =>
            rw [rounds_succ]
            go_wp2_with fail
            as_aux_lemma =>
             rw [rounds_succ]
             go_wp2_with fail
             as_aux_lemma =>
              rw [rounds_succ]
              go_wp2_with fail
              as_aux_lemma =>
               rw [rounds_succ]
               go_wp2_with fail
               go_ret
               refine ⟨rfl, ?_⟩
               have hb1 := HB.out
               repeat refine Below.alloc ?_ (by first | omega | (simp only [World.size_alloc]; omega)) _
               exact hb1
end Go.Proofs.Qxb6605174aMods.Add
