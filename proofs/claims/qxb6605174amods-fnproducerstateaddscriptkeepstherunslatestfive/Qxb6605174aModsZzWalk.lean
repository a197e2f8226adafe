/- ZZProducerStateAdd, over whatever add does. -/
import Derived.Test.Qxb6605174aModsRowWorlds
import Derived.LoopN
import Derived.Deep.RegionHeld3
namespace Go.Proofs.Qxb6605174aMods.Add
open Go.RowKit
attribute [local go_sem] setCell_drewN alloc_drewN setRow_drewN setRow_alloc_at setRow_alloc_past

set_option maxHeartbeats 40000000 in
theorem zz (W : World) (e n s0 s1 s2 s3 s4 r0 r1 r2 r3 r4 o0 o1 o2 o3 o4 la he hs hr bo at_ E N S0 S1 S2 S3 S4 R0 R1 R2 R3 R4 O0 O1 O2 O3 O4 LA : Int)
    (HADD : Hid (∀ (X Y : World) (g k : Nat), g = X.heap.size → Y = (X.alloc (.cells #[.int .i16 e, .int .i8 n, .int .i32 s0, .int .i32 r0, .int .i64 o0, .int .i32 s1, .int .i32 r1, .int .i64 o1, .int .i32 s2, .int .i32 r2, .int .i64 o2, .int .i32 s3, .int .i32 r3, .int .i64 o3, .int .i32 s4, .int .i32 r4, .int .i64 o4, .int .i64 la] 49)).drewN k → Calls Trym.prog 14 #[.pointer (some ⟨g, 0, none⟩), .agg #[.int .i64 0, .int .i32 0, .int .i32 0, .int .i8 0, .int .u32 0, .int .i16 0, .int .i32 0, .int .i64 0, .int .i64 0, .int .i64 0, .int .i16 he, .int .i32 hs, .int .i32 hr], .int .i64 bo, .int .i64 at_]
      Y fun en w' => en = .returned (.tuple #[]) ∧
      ∃ m, w' = ((X.alloc (.cells #[.int .i16 E, .int .i8 N, .int .i32 S0, .int .i32 R0, .int .i64 O0, .int .i32 S1, .int .i32 R1, .int .i64 O1, .int .i32 S2, .int .i32 R2, .int .i64 O2, .int .i32 S3, .int .i32 R3, .int .i64 O3, .int .i32 S4, .int .i32 R4, .int .i64 O4, .int .i64 LA] 49)).alloc (.cells #[.int .i64 0, .int .i32 0, .int .i32 0, .int .i8 0, .int .u32 0, .int .i16 0, .int .i32 0, .int .i64 0, .int .i64 0, .int .i64 0, .int .i16 he, .int .i32 hs, .int .i32 hr] 52)).drewN m)) :
    Calls Trym.prog 8 #[.int .i16 e, .int .i8 n, .agg #[.int .i32 s0, .int .i32 s1, .int .i32 s2, .int .i32 s3, .int .i32 s4], .agg #[.int .i32 r0, .int .i32 r1, .int .i32 r2, .int .i32 r3, .int .i32 r4], .agg #[.int .i64 o0, .int .i64 o1, .int .i64 o2, .int .i64 o3, .int .i64 o4], .int .i64 la, .int .i16 he, .int .i32 hs, .int .i32 hr, .int .i64 bo, .int .i64 at_]
      W fun en w' => en = .returned (.tuple #[.int .i16 E, .int .i8 N, .agg #[.int .i32 S0, .int .i32 S1, .int .i32 S2, .int .i32 S3, .int .i32 S4], .agg #[.int .i32 R0, .int .i32 R1, .int .i32 R2, .int .i32 R3, .int .i32 R4], .agg #[.int .i64 O0, .int .i64 O1, .int .i64 O2, .int .i64 O3, .int .i64 O4], .int .i64 LA]) ∧ Below W.heap.size W w' := by
  go_enter Trym.func8, Trym.ntmps8
  go_wp2_with (refine wpList_store_row rfl 49 _ _ rfl (W.heap.size + 1 + 1 + 1 + 1 + 1 + 1) #[.int .i16 e, .int .i8 n, .int .i32 0, .int .i32 0, .int .i64 0, .int .i32 0, .int .i32 0, .int .i64 0, .int .i32 0, .int .i32 0, .int .i64 0, .int .i32 0, .int .i32 0, .int .i64 0, .int .i32 0, .int .i32 0, .int .i64 0, .int .i64 la] ?hx ?hy 49 #[.int .i16 0, .int .i8 0, .int .i32 0, .int .i32 0, .int .i64 0, .int .i32 0, .int .i32 0, .int .i64 0, .int .i32 0, .int .i32 0, .int .i64 0, .int .i32 0, .int .i32 0, .int .i64 0, .int .i32 0, .int .i32 0, .int .i64 0, .int .i64 0] ?hg size49 rfl (one18 _ _ _ _ _ _ _ _ _ _ _ _ _ _ _ _ _ _) ?_)
  case hx => rfl
  case hy => rfl
  case hg => exact hp_at _ _ _ (by simp)
  refine wp_loop_rounds 6 ?_
  as_aux_lemma =>
   rw [rounds_succ]
   go_wp2_with fail
   go_region
   go_wp2_with fail
   as_aux_lemma =>
    rw [rounds_succ]
    go_wp2_with fail
    go_region
    go_wp2_with fail
    as_aux_lemma =>
     rw [rounds_succ]
     go_wp2_with fail
     go_region
     go_wp2_with fail
     as_aux_lemma =>
      rw [rounds_succ]
      go_wp2_with fail
      go_region
      go_wp2_with fail
      as_aux_lemma =>
       rw [rounds_succ]
       go_wp2_with fail
       go_region
       go_wp2_with fail
       as_aux_lemma =>
        rw [rounds_succ]
        go_wp2_with fail
        as_aux_lemma =>
         refine (HADD.out ((((((W.alloc (.cells #[.int .i32 s0, .int .i32 s1, .int .i32 s2, .int .i32 s3, .int .i32 s4] 31)).alloc (.cells #[.int .i32 r0, .int .i32 r1, .int .i32 r2, .int .i32 r3, .int .i32 r4] 31)).alloc (.cells #[.int .i64 o0, .int .i64 o1, .int .i64 o2, .int .i64 o3, .int .i64 o4] 32)).alloc (.cells #[.int .i32 0, .int .i32 0, .int .i32 0, .int .i32 0, .int .i32 0] 31)).alloc (.cells #[.int .i32 0, .int .i32 0, .int .i32 0, .int .i32 0, .int .i32 0] 31)).alloc (.cells #[.int .i64 0, .int .i64 0, .int .i64 0, .int .i64 0, .int .i64 0] 32)) _ _ 5 (by simp) rfl).mono ?_
         rintro en w' ⟨rfl, m, rfl⟩
         go_wp2_with fail
         refine wp_loop_rounds 6 ?_
         as_aux_lemma =>
          rw [rounds_succ]
          go_wp2_with fail
          as_aux_lemma =>
           rw [rounds_succ]
           go_wp2_with fail
           as_aux_lemma =>
            rw [rounds_succ]
            go_wp2_with fail
            as_aux_lemma =>
             rw [rounds_succ]
             go_wp2_with fail
             as_aux_lemma =>
              rw [rounds_succ]
              go_wp2_with fail
              as_aux_lemma =>
               rw [rounds_succ]
               go_wp2_with fail
               as_aux_lemma =>
                go_region_held3 (fun w' => w'.cell? ⟨W.heap.size + 1 + 1 + 1 + 1 + 1 + 1, 0, none⟩ = some (.int .i16 E) ∧ w'.cell? ⟨W.heap.size + 1 + 1 + 1 + 1 + 1 + 1, 1, none⟩ = some (.int .i8 N) ∧ w'.cell? ⟨W.heap.size + 1 + 1 + 1 + 1 + 1 + 1, 17, none⟩ = some (.int .i64 LA) ∧ w'.cell? ⟨W.heap.size + 1 + 1 + 1 + 1 + 1 + 1 + 1 + 1, 0, none⟩ = some (.int .i32 S0) ∧ w'.cell? ⟨W.heap.size + 1 + 1 + 1 + 1 + 1 + 1 + 1 + 1, 1, none⟩ = some (.int .i32 S1) ∧ w'.cell? ⟨W.heap.size + 1 + 1 + 1 + 1 + 1 + 1 + 1 + 1, 2, none⟩ = some (.int .i32 S2) ∧ w'.cell? ⟨W.heap.size + 1 + 1 + 1 + 1 + 1 + 1 + 1 + 1, 3, none⟩ = some (.int .i32 S3) ∧ w'.cell? ⟨W.heap.size + 1 + 1 + 1 + 1 + 1 + 1 + 1 + 1, 4, none⟩ = some (.int .i32 S4) ∧ w'.cell? ⟨W.heap.size + 1 + 1 + 1 + 1 + 1 + 1 + 1 + 1 + 1, 0, none⟩ = some (.int .i32 R0) ∧ w'.cell? ⟨W.heap.size + 1 + 1 + 1 + 1 + 1 + 1 + 1 + 1 + 1, 1, none⟩ = some (.int .i32 R1) ∧ w'.cell? ⟨W.heap.size + 1 + 1 + 1 + 1 + 1 + 1 + 1 + 1 + 1, 2, none⟩ = some (.int .i32 R2) ∧ w'.cell? ⟨W.heap.size + 1 + 1 + 1 + 1 + 1 + 1 + 1 + 1 + 1, 3, none⟩ = some (.int .i32 R3) ∧ w'.cell? ⟨W.heap.size + 1 + 1 + 1 + 1 + 1 + 1 + 1 + 1 + 1, 4, none⟩ = some (.int .i32 R4) ∧ w'.cell? ⟨W.heap.size + 1 + 1 + 1 + 1 + 1 + 1 + 1 + 1 + 1 + 1, 0, none⟩ = some (.int .i64 O0) ∧ w'.cell? ⟨W.heap.size + 1 + 1 + 1 + 1 + 1 + 1 + 1 + 1 + 1 + 1, 1, none⟩ = some (.int .i64 O1) ∧ w'.cell? ⟨W.heap.size + 1 + 1 + 1 + 1 + 1 + 1 + 1 + 1 + 1 + 1, 2, none⟩ = some (.int .i64 O2) ∧ w'.cell? ⟨W.heap.size + 1 + 1 + 1 + 1 + 1 + 1 + 1 + 1 + 1 + 1, 3, none⟩ = some (.int .i64 O3) ∧ w'.cell? ⟨W.heap.size + 1 + 1 + 1 + 1 + 1 + 1 + 1 + 1 + 1 + 1, 4, none⟩ = some (.int .i64 O4)) (simp [go_sem]) (fail)
                go_wp2
                as_aux_lemma =>
                  refine bodyPost_ret (v := .tuple #[.int .i16 E, .int .i8 N, .agg #[.int .i32 S0, .int .i32 S1, .int .i32 S2, .int .i32 S3, .int .i32 S4], .agg #[.int .i32 R0, .int .i32 R1, .int .i32 R2, .int .i32 R3, .int .i32 R4], .agg #[.int .i64 O0, .int .i64 O1, .int .i64 O2, .int .i64 O3, .int .i64 O4], .int .i64 LA]) (by simp [results, Trym.results8, go_sem]) rfl ⟨rfl, ?_⟩
                  refine below_draws _ ?_
                  repeat refine Below.alloc ?_ (by first | exact Nat.le_refl _ | (simp only [World.size_alloc]; omega)) _
                  exact Below.refl _ _
end Go.Proofs.Qxb6605174aMods.Add
