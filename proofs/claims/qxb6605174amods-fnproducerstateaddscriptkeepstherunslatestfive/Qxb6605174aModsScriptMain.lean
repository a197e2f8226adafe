/- The script law: the main case. -/
import Derived.Test.Qxb6605174aModsScriptMem
import Derived.Deep.DeepCutAuto
import Derived.Deep.QuietTactic
import Derived.BigQuiet
import Derived.StillTactics
namespace Go.Proofs.Qxb6605174aMods.Script
open Go.RowKit

set_option maxRecDepth 100000 in
set_option maxHeartbeats 40000000 in
theorem script_main (W : World) (a0 a1 a2 a3 a4 : Option Addr) (l0 c0 l1 c1 l2 c2 l3 c3 l4 c4 : Nat) (q0 q1 q2 q3 q4 : List Int)
    (r0 : IsRow .i16 W a0 l0 c0 q0) (r1 : IsRow .i32 W a1 l1 c1 q1) (r2 : IsRow .i32 W a2 l2 c2 q2) (r3 : IsRow .i64 W a3 l3 c3 q3) (r4 : IsRow .i64 W a4 l4 c4 q4)
    (m0 : l0 ≤ 65536) (m1 : l1 ≤ 65536) (m2 : l2 ≤ 65536) (m3 : l3 ≤ 65536) (m4 : l4 ≤ 65536) (m8 : 8 * (l0 + l1 + l2 + l3 + l4) ≤ 1048576) :
    Calls Trym.prog 6 #[.slice a0 l0 c0, .slice a1 l1 c1, .slice a2 l2 c2, .slice a3 l3 c3, .slice a4 l4 c4] W fun e w' => e = .returned (.bool true) ∧ Below W.heap.size W w' := by
  have R0 : Hid (IsRow .i16 W a0 l0 c0 q0) := r0
  have R1 : Hid (IsRow .i32 W a1 l1 c1 q1) := r1
  have R2 : Hid (IsRow .i32 W a2 l2 c2 q2) := r2
  have R3 : Hid (IsRow .i64 W a3 l3 c3 q3) := r3
  have R4 : Hid (IsRow .i64 W a4 l4 c4 q4) := r4
  clear r0 r1 r2 r3 r4
  go_enter Trym.func6, Trym.ntmps6
  go_wp2_with fail
  refine (bytes_yes W a0 a1 a2 a3 a4 l0 c0 l1 c1 l2 c2 l3 c3 l4 c4 (by omega)).mono ?_
  rintro e w' ⟨rfl, hw⟩
  rw [hw]
  clear hw w'
  go_wp2_with fail
  refine (cp10 W a0 l0 c0 q0 R0.out m0).mono ?_
  rintro e x1 ⟨b0, rfl, n0, y1⟩
  have N0 : Hid (NewAt .i16 x1 b0 29 l0 q0) := n0
  have Y1 : Hid (Below W.heap.size W x1) := y1
  clear n0 y1
  go_wp2_with fail
  refine (cp11 x1 a1 l1 c1 q1 (R1.out.below Y1.out) m1).mono ?_
  rintro e x2 ⟨b1, rfl, n1, y2⟩
  have N1 : Hid (NewAt .i32 x2 b1 21 l1 q1) := n1
  have Y2 : Hid (Below x1.heap.size x1 x2) := y2
  clear n1 y2
  go_wp2_with fail
  refine (cp11 x2 a2 l2 c2 q2 ((R2.out.below Y1.out).below Y2.out) m2).mono ?_
  rintro e x3 ⟨b2, rfl, n2, y3⟩
  have N2 : Hid (NewAt .i32 x3 b2 21 l2 q2) := n2
  have Y3 : Hid (Below x2.heap.size x2 x3) := y3
  clear n2 y3
  go_wp2_with fail
  refine (cp12 x3 a3 l3 c3 q3 (((R3.out.below Y1.out).below Y2.out).below Y3.out) m3).mono ?_
  rintro e x4 ⟨b3, rfl, n3, y4⟩
  have N3 : Hid (NewAt .i64 x4 b3 2 l3 q3) := n3
  have Y4 : Hid (Below x3.heap.size x3 x4) := y4
  clear n3 y4
  go_wp2_with fail
  refine (cp12 x4 a4 l4 c4 q4 ((((R4.out.below Y1.out).below Y2.out).below Y3.out).below Y4.out) m4).mono ?_
  rintro e x5 ⟨b4, rfl, n4, y5⟩
  have N4 : Hid (NewAt .i64 x5 b4 2 l4 q4) := n4
  have Y5 : Hid (Below x4.heap.size x4 x5) := y5
  clear n4 y5
  have hsum : Hid (Below W.heap.size W x5 ∧ NewAt .i16 x5 b0 29 l0 q0 ∧ NewAt .i32 x5 b1 21 l1 q1 ∧ NewAt .i32 x5 b2 21 l2 q2 ∧ NewAt .i64 x5 b3 2 l3 q3 ∧ NewAt .i64 x5 b4 2 l4 q4) := by
    have z1 := Y1.out.size
    have z2 := Y2.out.size
    have z3 := Y3.out.size
    have z4 := Y4.out.size
    exact ⟨(((Y1.out.trans (Y2.out.mono z1)).trans (Y3.out.mono (by omega))).trans (Y4.out.mono (by omega))).trans (Y5.out.mono (by omega)),
      (((N0.out.below Y2.out).below Y3.out).below Y4.out).below Y5.out, ((N1.out.below Y3.out).below Y4.out).below Y5.out, (N2.out.below Y4.out).below Y5.out, N3.out.below Y5.out, N4.out⟩
  clear N0 N1 N2 N3 N4 Y1 Y2 Y3 Y4 Y5 R0 R1 R2 R3 R4
  as_aux_lemma =>
    go_upto_if 87 with fail
    go_cut [11] (fun s w => ∃ K : Nat, s = .int .i64 K ∧ K ≤ l0 ∧ K ≤ l1 ∧ x5 = w)
    case first =>
      by_cases h : l1 < l0
      all_goals
        go_wp2_with fail
        go_meet
        case rel => first | exact ⟨l1, rfl, by omega, by omega, rfl⟩ | exact ⟨l0, rfl, by omega, by omega, rfl⟩
    case rest =>
      obtain ⟨K, rfl, k0, k1, hx⟩ := hcut
      subst hx
      as_aux_lemma =>
        go_upto_if 93 with fail
        go_cut [11] (fun s w => ∃ K : Nat, s = .int .i64 K ∧ K ≤ l0 ∧ K ≤ l1 ∧ K ≤ l2 ∧ x5 = w)
        case first =>
          by_cases h : l2 < K
          all_goals
            go_wp2_with fail
            go_meet
            case rel => first | exact ⟨l2, rfl, by omega, by omega, by omega, rfl⟩ | exact ⟨K, rfl, by omega, by omega, by omega, rfl⟩
        case rest =>
          obtain ⟨K, rfl, k0, k1, k2, hx⟩ := hcut
          subst hx
          as_aux_lemma =>
            go_upto_if 99 with fail
            go_cut [11] (fun s w => ∃ K : Nat, s = .int .i64 K ∧ K ≤ l0 ∧ K ≤ l1 ∧ K ≤ l2 ∧ K ≤ l3 ∧ x5 = w)
            case first =>
              by_cases h : l3 < K
              all_goals
                go_wp2_with fail
                go_meet
                case rel => first | exact ⟨l3, rfl, by omega, by omega, by omega, by omega, rfl⟩ | exact ⟨K, rfl, by omega, by omega, by omega, by omega, rfl⟩
            case rest =>
              obtain ⟨K, rfl, k0, k1, k2, k3, hx⟩ := hcut
              subst hx
              as_aux_lemma =>
                go_upto_if 105 with fail
                go_cut [11] (fun s w => ∃ K : Nat, s = .int .i64 K ∧ K ≤ l0 ∧ K ≤ l1 ∧ K ≤ l2 ∧ K ≤ l3 ∧ K ≤ l4 ∧ x5 = w)
                case first =>
                  by_cases h : l4 < K
                  all_goals
                    go_wp2_with fail
                    go_meet
                    case rel => first | exact ⟨l4, rfl, by omega, by omega, by omega, by omega, by omega, rfl⟩ | exact ⟨K, rfl, by omega, by omega, by omega, by omega, by omega, rfl⟩
                case rest =>
                  obtain ⟨K, rfl, k0, k1, k2, k3, k4, hx⟩ := hcut
                  subst hx
                  as_aux_lemma =>
                    by_cases hK : K = 0
                    · subst hK
                      go_wp2_with fail
                      refine wp_loop_rounds 1 ?_
                      rw [rounds_succ]
                      go_wp2_with fail
                      go_ret
                      have hz := hsum.out.1.size
                      exact ⟨rfl, ((hsum.out.1.alloc hz _).alloc (by simp only [World.size_alloc]; omega) _).alloc (by simp only [World.size_alloc]; omega) _⟩
                    · obtain ⟨hB, n0, n1, n2, n3, n4⟩ := hsum.out
                      obtain ⟨g0, rfl, d0, i0⟩ := n0.resolve_left (by omega)
                      obtain ⟨g1, rfl, d1, i1⟩ := n1.resolve_left (by omega)
                      obtain ⟨g2, rfl, d2, i2⟩ := n2.resolve_left (by omega)
                      obtain ⟨g3, rfl, d3, i3⟩ := n3.resolve_left (by omega)
                      obtain ⟨g4, rfl, d4, i4⟩ := n4.resolve_left (by omega)
                      have M0 : Hid (Mem W (((x5.alloc (.cells #[.int .i32 0, .int .i32 0, .int .i32 0, .int .i32 0, .int .i32 0] 31)).alloc (.cells #[.int .i32 0, .int .i32 0, .int .i32 0, .int .i32 0, .int .i32 0] 31)).alloc (.cells #[.int .i64 0, .int .i64 0, .int .i64 0, .int .i64 0, .int .i64 0] 32)) x5.heap.size g0 g1 g2 g3 g4 l0 l1 l2 l3 l4 q0 q1 q2 q3 q4 0 0) :=
                        mem_start W x5 g0 g1 g2 g3 g4 l0 l1 l2 l3 l4 q0 q1 q2 q3 q4 hB i0 i1 i2 i3 i4 d0 d1 d2 d3 d4
                      clear hsum hB n0 n1 n2 n3 n4 i0 i1 i2 i3 i4 d0 d1 d2 d3 d4
                      go_wp2_with fail
                      as_aux_lemma =>
                        go_loopw [12, 13, 17, 18, 19] (fun ve vn vl vr vi wr => ∃ (k n r : Nat) (e la : Int), k ≤ K ∧ n ≤ 5 ∧ n ≤ k ∧ r ≤ k ∧ ve = .int .i16 e ∧ vn = .int .i8 n ∧ vl = .int .i64 la ∧ vr = .int .i64 r ∧ vi = .int .i64 k ∧
                            Hid (n = min 5 r ∧ (k = 0 → n = 0) ∧ (0 < k → 0 < n ∧ e = q0.getD (k - 1) 0)) ∧ Hid (Mem W wr x5.heap.size g0 g1 g2 g3 g4 l0 l1 l2 l3 l4 q0 q1 q2 q3 q4 k n)) (fun _ _ _ _ vi _ => K - (intOf vi).toNat)
                        case atStart => exact ⟨0, 0, 0, 0, 0, by omega, by omega, by omega, by omega, rfl, rfl, rfl, rfl, rfl, ⟨rfl, fun _ => rfl, fun h => absurd h (by omega)⟩, M0.out⟩
                        case round =>
                          obtain ⟨k, n, r, e, la, hk, hn5, hnk, hrk, rfl, rfl, rfl, rfl, rfl, I, M⟩ := hrel
                          clear M0
                          by_cases hlt : k < K
                          · obtain ⟨cs, cr, co, c0, c1, c2, c3, c4⟩ := mem_cells M.out
                            have s0 := cs 0 (by omega)
                            have t0 := cr 0 (by omega)
                            have o0 := co 0 (by omega)
                            have s1 := cs 1 (by omega)
                            have t1 := cr 1 (by omega)
                            have o1 := co 1 (by omega)
                            have s2 := cs 2 (by omega)
                            have t2 := cr 2 (by omega)
                            have o2 := co 2 (by omega)
                            have s3 := cs 3 (by omega)
                            have t3 := cr 3 (by omega)
                            have o3 := co 3 (by omega)
                            have s4 := cs 4 (by omega)
                            have t4 := cr 4 (by omega)
                            have o4 := co 4 (by omega)
                            have e0 := c0 k (by omega)
                            have e1 := c1 k (by omega)
                            have e2 := c2 k (by omega)
                            have e3 := c3 k (by omega)
                            have e4 := c4 k (by omega)
                            have z0 : (k : Int) < (l0 : Int) := by omega
                            have z1 : (k : Int) < (l1 : Int) := by omega
                            have z2 : (k : Int) < (l2 : Int) := by omega
                            have z3 : (k : Int) < (l3 : Int) := by omega
                            have z4 : (k : Int) < (l4 : Int) := by omega
                            clear cs cr co c0 c1 c2 c3 c4
                            go_upto_region 30 with fail
                            obtain ⟨n', hn'⟩ : ∃ n', nxt n e (q0.getD k 0) = n' := ⟨_, rfl⟩
                            have hst := step wr.drew e n k q1 q2 q3 la (q0.getD k 0) (q4.getD k 0) hn5 hnk
                            rw [hn'] at hst
                            simp only [List.getD_eq_getElem?_getD] at hst
                            have HN : Hid (nxt n e (q0.getD k 0) = n') := hn'
                            have HST : Hid (Calls Trym.prog 8 #[.int .i16 e, .int .i8 n, .agg #[.int .i32 (win q1 k n 0), .int .i32 (win q1 k n 1), .int .i32 (win q1 k n 2), .int .i32 (win q1 k n 3), .int .i32 (win q1 k n 4)], .agg #[.int .i32 (win q2 k n 0), .int .i32 (win q2 k n 1), .int .i32 (win q2 k n 2), .int .i32 (win q2 k n 3), .int .i32 (win q2 k n 4)], .agg #[.int .i64 (win q3 k n 0), .int .i64 (win q3 k n 1), .int .i64 (win q3 k n 2), .int .i64 (win q3 k n 3), .int .i64 (win q3 k n 4)], .int .i64 la, .int .i16 (q0[k]?.getD 0), .int .i32 (q1[k]?.getD 0), .int .i32 (q2[k]?.getD 0), .int .i64 (q3[k]?.getD 0), .int .i64 (q4[k]?.getD 0)]
                              wr.drew fun en w' => en = .returned (.tuple #[.int .i16 (q0[k]?.getD 0), .int .i8 n', .agg #[.int .i32 (win q1 (k + 1) n' 0), .int .i32 (win q1 (k + 1) n' 1), .int .i32 (win q1 (k + 1) n' 2), .int .i32 (win q1 (k + 1) n' 3), .int .i32 (win q1 (k + 1) n' 4)], .agg #[.int .i32 (win q2 (k + 1) n' 0), .int .i32 (win q2 (k + 1) n' 1), .int .i32 (win q2 (k + 1) n' 2), .int .i32 (win q2 (k + 1) n' 3), .int .i32 (win q2 (k + 1) n' 4)], .agg #[.int .i64 (win q3 (k + 1) n' 0), .int .i64 (win q3 (k + 1) n' 1), .int .i64 (win q3 (k + 1) n' 2), .int .i64 (win q3 (k + 1) n' 3), .int .i64 (win q3 (k + 1) n' 4)], .int .i64 (q4[k]?.getD 0)]) ∧ Below wr.drew.heap.size wr.drew w') := hst
                            clear hn' hst
                            go_cut [12, 13, 17] (fun ve vn vl w => ve = .int .i16 (q0.getD k 0) ∧ vn = .int .i8 n' ∧ vl = .int .i64 (q4.getD k 0) ∧ Hid (Mem W w x5.heap.size g0 g1 g2 g3 g4 l0 l1 l2 l3 l4 q0 q1 q2 q3 q4 (k + 1) n'))
                            case first =>
                              as_aux_lemma =>
                                refine Law.region_head_tail 26 (by kernel_rfl) (by kernel_rfl) (fun _ _ d _ _ h => by cases d <;> exact h) ?_
                                simp only [List.take_succ_cons, List.take_zero, List.drop_succ_cons, List.drop_zero]
                                repeat still_step
                                refine wpStill_nil ?_
                                go_wp2_with fail
                                refine HST.out.mono ?_
                                rintro en w1 ⟨rfl, hb⟩
                                have hmd := mem_draw M.out
                                obtain ⟨f1, f2, f3⟩ := mem_find hmd hb #[.int .i32 (win q1 (k + 1) n' 0), .int .i32 (win q1 (k + 1) n' 1), .int .i32 (win q1 (k + 1) n' 2), .int .i32 (win q1 (k + 1) n' 3), .int .i32 (win q1 (k + 1) n' 4)] #[.int .i32 (win q2 (k + 1) n' 0), .int .i32 (win q2 (k + 1) n' 1), .int .i32 (win q2 (k + 1) n' 2), .int .i32 (win q2 (k + 1) n' 3), .int .i32 (win q2 (k + 1) n' 4)]
                                have F1 : Hid (w1.heap[x5.heap.size]? = some (.cells #[.int .i32 (win q1 k n 0), .int .i32 (win q1 k n 1), .int .i32 (win q1 k n 2), .int .i32 (win q1 k n 3), .int .i32 (win q1 k n 4)] 31 (0, 0))) := f1
                                have F2 : Hid ((w1.setRow x5.heap.size #[.int .i32 (win q1 (k + 1) n' 0), .int .i32 (win q1 (k + 1) n' 1), .int .i32 (win q1 (k + 1) n' 2), .int .i32 (win q1 (k + 1) n' 3), .int .i32 (win q1 (k + 1) n' 4)]).heap[x5.heap.size + 1]? = some (.cells #[.int .i32 (win q2 k n 0), .int .i32 (win q2 k n 1), .int .i32 (win q2 k n 2), .int .i32 (win q2 k n 3), .int .i32 (win q2 k n 4)] 31 (0, 0))) := f2
                                have F3 : Hid (((w1.setRow x5.heap.size #[.int .i32 (win q1 (k + 1) n' 0), .int .i32 (win q1 (k + 1) n' 1), .int .i32 (win q1 (k + 1) n' 2), .int .i32 (win q1 (k + 1) n' 3), .int .i32 (win q1 (k + 1) n' 4)]).setRow (x5.heap.size + 1) #[.int .i32 (win q2 (k + 1) n' 0), .int .i32 (win q2 (k + 1) n' 1), .int .i32 (win q2 (k + 1) n' 2), .int .i32 (win q2 (k + 1) n' 3), .int .i32 (win q2 (k + 1) n' 4)]).heap[x5.heap.size + 1 + 1]? = some (.cells #[.int .i64 (win q3 k n 0), .int .i64 (win q3 k n 1), .int .i64 (win q3 k n 2), .int .i64 (win q3 k n 3), .int .i64 (win q3 k n 4)] 32 (0, 0))) := f3
                                have ME : Hid (Mem W (((w1.setRow x5.heap.size #[.int .i32 (win q1 (k + 1) n' 0), .int .i32 (win q1 (k + 1) n' 1), .int .i32 (win q1 (k + 1) n' 2), .int .i32 (win q1 (k + 1) n' 3), .int .i32 (win q1 (k + 1) n' 4)]).setRow (x5.heap.size + 1) #[.int .i32 (win q2 (k + 1) n' 0), .int .i32 (win q2 (k + 1) n' 1), .int .i32 (win q2 (k + 1) n' 2), .int .i32 (win q2 (k + 1) n' 3), .int .i32 (win q2 (k + 1) n' 4)]).setRow (x5.heap.size + 1 + 1) #[.int .i64 (win q3 (k + 1) n' 0), .int .i64 (win q3 (k + 1) n' 1), .int .i64 (win q3 (k + 1) n' 2), .int .i64 (win q3 (k + 1) n' 3), .int .i64 (win q3 (k + 1) n' 4)]) x5.heap.size g0 g1 g2 g3 g4 l0 l1 l2 l3 l4 q0 q1 q2 q3 q4 (k + 1) n') := mem_step n' hmd hb
                                clear f1 f2 f3 hmd hb
                                go_wp2_with (first
                                  | (refine wpList_store_row rfl 31 _ _ rfl x5.heap.size #[.int .i32 (win q1 (k + 1) n' 0), .int .i32 (win q1 (k + 1) n' 1), .int .i32 (win q1 (k + 1) n' 2), .int .i32 (win q1 (k + 1) n' 3), .int .i32 (win q1 (k + 1) n' 4)] rfl rfl 31 #[.int .i32 (win q1 k n 0), .int .i32 (win q1 k n 1), .int .i32 (win q1 k n 2), .int .i32 (win q1 k n 3), .int .i32 (win q1 k n 4)] F1.out size31 rfl (one5 _ _ _ _ _ _) ?_)
                                  | (refine wpList_store_row rfl 31 _ _ rfl (x5.heap.size + 1) #[.int .i32 (win q2 (k + 1) n' 0), .int .i32 (win q2 (k + 1) n' 1), .int .i32 (win q2 (k + 1) n' 2), .int .i32 (win q2 (k + 1) n' 3), .int .i32 (win q2 (k + 1) n' 4)] rfl rfl 31 #[.int .i32 (win q2 k n 0), .int .i32 (win q2 k n 1), .int .i32 (win q2 k n 2), .int .i32 (win q2 k n 3), .int .i32 (win q2 k n 4)] F2.out size31 rfl (one5 _ _ _ _ _ _) ?_)
                                  | (refine wpList_store_row rfl 32 _ _ rfl (x5.heap.size + 1 + 1) #[.int .i64 (win q3 (k + 1) n' 0), .int .i64 (win q3 (k + 1) n' 1), .int .i64 (win q3 (k + 1) n' 2), .int .i64 (win q3 (k + 1) n' 3), .int .i64 (win q3 (k + 1) n' 4)] rfl rfl 32 #[.int .i64 (win q3 k n 0), .int .i64 (win q3 k n 1), .int .i64 (win q3 k n 2), .int .i64 (win q3 k n 3), .int .i64 (win q3 k n 4)] F3.out size32 rfl (one5 _ _ _ _ _ _) ?_))
                                go_meet
                                case rel => exact ⟨rfl, rfl, rfl, ME.out⟩
                            case rest =>
                              clear s0 s1 s2 s3 s4 t0 t1 t2 t3 t4 o0 o1 o2 o3 o4 e0 e1 e2 e3 e4 M HST
                              obtain ⟨rfl, rfl, rfl, M1⟩ := hcut
                              obtain ⟨_, _, _, c0, _⟩ := mem_cells M1.out
                              have C0 : Hid (∀ j, j < l0 → wc.cell? ⟨g0, j, none⟩ = some (.int .i16 (q0.getD j 0))) := c0
                              clear c0
                              have e0 := C0.out k (by omega)
                              obtain ⟨sm, hsm⟩ : ∃ sm : Bool, sm = decide (0 < k ∧ q0.getD k 0 = q0.getD (k - 1) 0) := ⟨_, rfl⟩
                              have HS : Hid (sm = decide (0 < k ∧ q0.getD k 0 = q0.getD (k - 1) 0)) := hsm
                              clear hsm
                              go_upto_region 31 with fail
                              go_cut [160] (fun b w => b = .bool sm ∧ Hid (Mem W w x5.heap.size g0 g1 g2 g3 g4 l0 l1 l2 l3 l4 q0 q1 q2 q3 q4 (k + 1) n'))
                              case first =>
                                as_aux_lemma =>
                                  by_cases h0 : 0 < k
                                  · have e00 := C0.out (k - 1) (by omega)
                                    have hd : decide ((0 : Int) < (k : Int)) = true := decide_eq_true (by omega)
                                    have hd' : (0 : Int) < (k : Int) := by omega
                                    have hp1 : (0 : Int) ≤ (k : Int) - 1 := by omega
                                    have hp2 : (k : Int) - 1 < (l0 : Int) := by omega
                                    go_quiet (fail)
                                    go_wp2_with fail
                                    go_meet
                                    case rel => exact ⟨congrArg Value.bool (by rw [HS.out, Bool.eq_iff_iff]; simp [h0]), mem_draws _ M1.out⟩
                                  · have hd : decide ((0 : Int) < (k : Int)) = false := decide_eq_false (by omega)
                                    go_quiet (fail)
                                    go_wp2_with fail
                                    go_meet
                                    case rel => exact ⟨congrArg Value.bool (by rw [HS.out, Bool.eq_iff_iff]; simp [h0]), mem_draws _ M1.out⟩
                              case rest =>
                                obtain ⟨rfl, M2⟩ := hcut
                                clear M1 e0 C0
                                obtain ⟨wa, hwa⟩ : ∃ wa, wa = wc := ⟨_, rfl⟩
                                subst hwa
                                as_aux_lemma =>
                                  go_upto_if 160 with fail
                                  go_cut [18] (fun vr w => ∃ r' : Nat, vr = .int .i64 r' ∧ r' ≤ k + 1 ∧ Hid (n' = min 5 r') ∧ wa = w)
                                  case first =>
                                    cases sm with
                                    | false =>
                                      go_wp2_with fail
                                      go_meet
                                      case rel => exact ⟨1, rfl, by omega, run_other I.out HN.out HS.out, rfl⟩
                                    | true =>
                                      go_wp2_with fail
                                      go_meet
                                      case rel => exact ⟨r + 1, by go_num, by omega, run_same I.out HN.out HS.out, rfl⟩
                                  case rest =>
                                    obtain ⟨r', rfl, hr', HR, hx⟩ := hcut
                                    subst hx
                                    go_upto_if 165 with fail
                                    go_cut [20] (fun vk w => vk = .int .i64 n' ∧ wa = w)
                                    case first =>
                                      by_cases h5 : 5 < r'
                                      · have hv : n' = 5 := by have := HR.out; omega
                                        go_wp2_with fail
                                        go_meet
                                        case rel => exact ⟨by rw [hv]; rfl, rfl⟩
                                      · have hv : r' = n' := by have := HR.out; omega
                                        go_wp2_with fail
                                        go_meet
                                        case rel => exact ⟨by rw [hv], rfl⟩
                                    case rest =>
                                      obtain ⟨rfl, hx⟩ := hcut
                                      subst hx
                                      have q5 : n' ≤ 5 := by have := HR.out; omega
                                      have qk : n' ≤ k + 1 := by have := HR.out; omega
                                      have qp : 0 < n' := by
                                        have := HR.out
                                        have h0 := I.out
                                        rcases Nat.eq_zero_or_pos k with hk0 | hk0
                                        · have h1 := HN.out
                                          rw [h0.2.1 hk0, nxt_zero] at h1
                                          omega
                                        · have h1 := HN.out
                                          unfold nxt at h1
                                          split at h1
                                          · omega
                                          · split at h1 <;> omega
                                      obtain ⟨cs, cr, co, c0, c1, c2, c3, c4⟩ := mem_cells M2.out
                                      have e0 := c0 k (by omega)
                                      have e4 := c4 k (by omega)
                                      have CS : Hid (∀ j, j < 5 → wa.cell? ⟨x5.heap.size, j, none⟩ = some (.int .i32 (win q1 (k + 1) n' j))) := cs
                                      have CR : Hid (∀ j, j < 5 → wa.cell? ⟨x5.heap.size + 1, j, none⟩ = some (.int .i32 (win q2 (k + 1) n' j))) := cr
                                      have CO : Hid (∀ j, j < 5 → wa.cell? ⟨x5.heap.size + 1 + 1, j, none⟩ = some (.int .i64 (win q3 (k + 1) n' j))) := co
                                      have C1 : Hid (∀ j, j < l1 → wa.cell? ⟨g1, j, none⟩ = some (.int .i32 (q1.getD j 0))) := c1
                                      have C2 : Hid (∀ j, j < l2 → wa.cell? ⟨g2, j, none⟩ = some (.int .i32 (q2.getD j 0))) := c2
                                      have C3 : Hid (∀ j, j < l3 → wa.cell? ⟨g3, j, none⟩ = some (.int .i64 (q3.getD j 0))) := c3
                                      clear cs cr co c0 c1 c2 c3 c4
                                      as_aux_lemma =>
                                        go_wp2_with fail
                                        go_loop [21] (fun vj => ∃ m : Nat, m ≤ 5 ∧ vj = .int .i64 m) (fun vj => 5 - (intOf vj).toNat)
                                        case atStart => exact ⟨0, by omega, rfl⟩
                                        case round =>
                                          obtain ⟨m, hm, rfl⟩ := hrel
                                          by_cases hm5 : m < 5
                                          · have hm5' : (m : Int) < 5 := by omega
                                            by_cases hmk : m < n'
                                            · obtain ⟨T, hT⟩ : ∃ T : Nat, k + 1 - n' + m = T := ⟨_, rfl⟩
                                              have hTi : (k : Int) - (n' : Int) + 1 + (m : Int) = (T : Int) := by omega
                                              have sA := CS.out m hm5
                                              have tA := CR.out m hm5
                                              have oA := CO.out m hm5
                                              rw [win_in _ _ _ _ T hmk hT] at sA tA oA
                                              have f1 := C1.out T (by omega)
                                              have f2 := C2.out T (by omega)
                                              have f3 := C3.out T (by omega)
                                              have y1 : (T : Int) < (l1 : Int) := by omega
                                              have y2 : (T : Int) < (l2 : Int) := by omega
                                              have y3 : (T : Int) < (l3 : Int) := by omega
                                              have hmk' : (m : Int) < (n' : Int) := by omega
                                              clear hT
                                              go_wp2_with fail
                                              go_round
                                              case rel => exact ⟨m + 1, by omega, by go_num⟩
                                              case measure => simp [intOf]; omega
                                            · have sA := CS.out m hm5
                                              have tA := CR.out m hm5
                                              have oA := CO.out m hm5
                                              rw [win_out _ _ _ _ hmk] at sA tA oA
                                              go_wp2_with fail
                                              go_round
                                              case rel => exact ⟨m + 1, by omega, by go_num⟩
                                              case measure => simp [intOf]; omega
                                          · go_wp2_with fail
                                            go_roundw
                                            case rel => exact ⟨k + 1, n', r', q0.getD k 0, q4.getD k 0, by omega, q5, qk, by omega, rfl, rfl, rfl, rfl, by go_num, ⟨HR.out, fun h => absurd h (by omega), fun _ => ⟨qp, by rw [Nat.add_sub_cancel]⟩⟩, M2.out⟩
                                            case measure => simp [intOf]; omega
                          · go_wp2_with fail
                            go_ret
                            exact ⟨rfl, mem_below M.out⟩
end Go.Proofs.Qxb6605174aMods.Script
