/- The walks of (*producerState).add: a contract a case. -/
import Derived.Test.Qxb6605174aModsRowWorlds
namespace Go.Proofs.Qxb6605174aMods.Add
open Go.RowKit
attribute [local go_sem] setCell_drewN alloc_drewN setRow_drewN setRow_alloc_at setRow_alloc_past

theorem hg14 (X : World) (cs hd : Array Value) (n : Nat) : (((X.alloc (.cells cs 49)).alloc (.cells hd 52)).drewN n).heap[X.heap.size]? = some (.cells cs 49) := by
  rw [World.heap_drewN, hp_past _ _ _ (by simp), hp_at _ _ _ rfl]

/-- 'copy' between two slices of elements of three cells, the destination in a row of its own. -/
theorem run_copy3 (P : Program) (w : World) (dT sT ty elem : TypeId) (g o dLen dCap : Nat) (a : Addr) (sLen sCap : Nat) (cur : Array Value) (t : TypeId) (cs : List Value)
    (hu : P.underlying dT = some (.slice elem)) (hs : (P.info? elem).map (·.size) = some 3)
    (hg : w.heap[g]? = some (.cells cur t (0, 0))) (hn : cs.length = Nat.min sLen dLen * 3)
    (hsrc : ∀ j v, cs[j]? = some v → w.cell? (a.add j) = some v) (hfit : o + cs.length ≤ cur.size) (h1 : ∀ v ∈ cs, v.oneCell' = true) :
    (Builtin.copy_ #[dT, sT] ty #[.slice (some ⟨g, o, none⟩) dLen dCap, .slice (some a) sLen sCap]).run P w =
      .ok (goInt (Nat.min sLen dLen)) (w.setRow g (cur.toList.take o ++ cs ++ cur.toList.drop (o + cs.length)).toArray) := by
  have hl := run_loadCells_list (P := P) w a cs hsrc
  have hst := run_storeCells_at P g o t cs 0 cur w hg (by simpa using hfit) h1
  cases hq : P.info? elem with
  | none => simp [hq] at hs
  | some i =>
    have hi : i.size = 3 := by simpa [hq] using hs
    simp [Builtin.copy_, run_underlying hu, Builtin.lenOf, Builtin.firstCells, sizeOf, typeInfo, hq, hi, ← hn, hl, hst]

theorem mid_get (l : List Value) (a n j : Nat) (v : Value) (h : ((l.drop a).take n)[j]? = some v) : l[a + j]? = some v := by
  rw [List.getElem?_take] at h
  split at h
  · rwa [List.getElem?_drop] at h
  · cases h
theorem size46 : (Trym.prog.info? 46).map (·.size) = some 3 := by kernel_rfl
/-- The shift: the four newest batches, one place down. -/
theorem shift (X : World) (cur hd : Array Value) (n : Nat) (hc : cur.size = 18) (h1 : ∀ v ∈ cur.toList, v.oneCell' = true) :
    (Builtin.copy_ #[54, 54] 3 #[.slice (some ⟨X.heap.size, 2, none⟩) 5 5, .slice (some ⟨X.heap.size, 5, none⟩) 4 4]).run Trym.prog (((X.alloc (.cells cur 49)).alloc (.cells hd 52)).drewN n) =
      .ok (.int .i64 4) (((X.alloc (.cells (cur.toList.take 2 ++ (cur.toList.drop 5).take 12 ++ cur.toList.drop 14).toArray 49)).alloc (.cells hd 52)).drewN n) := by
  have hlen : ((cur.toList.drop 5).take 12).length = 12 := by simp [hc]
  rw [run_copy3 Trym.prog _ 54 54 3 46 X.heap.size 2 5 5 ⟨X.heap.size, 5, none⟩ 4 4 cur 49 ((cur.toList.drop 5).take 12) Trym.underlying54 size46 (hg14 _ _ _ _) (by rw [hlen]; rfl) ?_ (by rw [hlen]; omega)
    (fun v hv => h1 v (List.mem_of_mem_drop (List.mem_of_mem_take hv)))]
  · rw [setRow_drewN, setRow_alloc_past _ _ _ _ (by simp), setRow_alloc_at _ _ _ _ _ rfl, hlen]
    rfl
  · intro j v hv
    have := mid_get _ _ _ _ _ hv
    rw [World.cell?_drewN]
    have hadd : (⟨X.heap.size, 5, none⟩ : Addr).add j = ⟨X.heap.size, 5 + j, none⟩ := by unfold Addr.add; split <;> simp_all
    rw [hadd, World.cell?_alloc_past _ _ _ (by simp), World.cell?_alloc_at _ _ _ _ rfl, ← this]
    simp


set_option maxHeartbeats 2000000 in
theorem addZero (X : World) (k : Nat) (e s0 s1 s2 s3 s4 r0 r1 r2 r3 r4 o0 o1 o2 o3 o4 la he hs hr bo at_ : Int) :
    Calls Trym.prog 14 #[.pointer (some ⟨X.heap.size, 0, none⟩), .agg #[.int .i64 0, .int .i32 0, .int .i32 0, .int .i8 0, .int .u32 0, .int .i16 0, .int .i32 0, .int .i64 0, .int .i64 0, .int .i64 0, .int .i16 he, .int .i32 hs, .int .i32 hr], .int .i64 bo, .int .i64 at_]
      ((X.alloc (.cells #[.int .i16 e, .int .i8 0, .int .i32 s0, .int .i32 r0, .int .i64 o0, .int .i32 s1, .int .i32 r1, .int .i64 o1, .int .i32 s2, .int .i32 r2, .int .i64 o2, .int .i32 s3, .int .i32 r3, .int .i64 o3, .int .i32 s4, .int .i32 r4, .int .i64 o4, .int .i64 la] 49)).drewN k) fun en w' => en = .returned (.tuple #[]) ∧
      ∃ m, w' = ((X.alloc (.cells #[.int .i16 he, .int .i8 1, .int .i32 hs, .int .i32 hr, .int .i64 bo, .int .i32 0, .int .i32 0, .int .i64 0, .int .i32 0, .int .i32 0, .int .i64 0, .int .i32 0, .int .i32 0, .int .i64 0, .int .i32 0, .int .i32 0, .int .i64 0, .int .i64 at_] 49)).alloc (.cells #[.int .i64 0, .int .i32 0, .int .i32 0, .int .i8 0, .int .u32 0, .int .i16 0, .int .i32 0, .int .i64 0, .int .i64 0, .int .i64 0, .int .i16 he, .int .i32 hs, .int .i32 hr] 52)).drewN m := by
  go_enter Trym.func14, Trym.ntmps14
  go_wp2
  go_quiet (fail)
  go_wp2_with (refine wpList_store_row rfl 49 _ _ rfl X.heap.size #[.int .i16 he, .int .i8 0, .int .i32 0, .int .i32 0, .int .i64 0, .int .i32 0, .int .i32 0, .int .i64 0, .int .i32 0, .int .i32 0, .int .i64 0, .int .i32 0, .int .i32 0, .int .i64 0, .int .i32 0, .int .i32 0, .int .i64 0, .int .i64 0] ?hx ?hy 49 #[.int .i16 e, .int .i8 0, .int .i32 s0, .int .i32 r0, .int .i64 o0, .int .i32 s1, .int .i32 r1, .int .i64 o1, .int .i32 s2, .int .i32 r2, .int .i64 o2, .int .i32 s3, .int .i32 r3, .int .i64 o3, .int .i32 s4, .int .i32 r4, .int .i64 o4, .int .i64 la] ?hg size49 rfl (one18 _ _ _ _ _ _ _ _ _ _ _ _ _ _ _ _ _ _) ?_)
  case hx => rfl
  case hy => rfl
  case hg => exact hg14 _ _ _ _
  go_region
  go_wp2
  go_end0
  exact ⟨rfl, _, rfl⟩

set_option maxHeartbeats 2000000 in
theorem addTurn (X : World) (k : Nat) (e n s0 s1 s2 s3 s4 r0 r1 r2 r3 r4 o0 o1 o2 o3 o4 la he hs hr bo at_ : Int) (hn : (n == 0) = false) (hh : (he != e) = true) :
    Calls Trym.prog 14 #[.pointer (some ⟨X.heap.size, 0, none⟩), .agg #[.int .i64 0, .int .i32 0, .int .i32 0, .int .i8 0, .int .u32 0, .int .i16 0, .int .i32 0, .int .i64 0, .int .i64 0, .int .i64 0, .int .i16 he, .int .i32 hs, .int .i32 hr], .int .i64 bo, .int .i64 at_]
      ((X.alloc (.cells #[.int .i16 e, .int .i8 n, .int .i32 s0, .int .i32 r0, .int .i64 o0, .int .i32 s1, .int .i32 r1, .int .i64 o1, .int .i32 s2, .int .i32 r2, .int .i64 o2, .int .i32 s3, .int .i32 r3, .int .i64 o3, .int .i32 s4, .int .i32 r4, .int .i64 o4, .int .i64 la] 49)).drewN k) fun en w' => en = .returned (.tuple #[]) ∧
      ∃ m, w' = ((X.alloc (.cells #[.int .i16 he, .int .i8 1, .int .i32 hs, .int .i32 hr, .int .i64 bo, .int .i32 0, .int .i32 0, .int .i64 0, .int .i32 0, .int .i32 0, .int .i64 0, .int .i32 0, .int .i32 0, .int .i64 0, .int .i32 0, .int .i32 0, .int .i64 0, .int .i64 at_] 49)).alloc (.cells #[.int .i64 0, .int .i32 0, .int .i32 0, .int .i8 0, .int .u32 0, .int .i16 0, .int .i32 0, .int .i64 0, .int .i64 0, .int .i64 0, .int .i16 he, .int .i32 hs, .int .i32 hr] 52)).drewN m := by
  go_enter Trym.func14, Trym.ntmps14
  go_wp2
  go_quiet (fail)
  go_wp2_with (refine wpList_store_row rfl 49 _ _ rfl X.heap.size #[.int .i16 he, .int .i8 0, .int .i32 0, .int .i32 0, .int .i64 0, .int .i32 0, .int .i32 0, .int .i64 0, .int .i32 0, .int .i32 0, .int .i64 0, .int .i32 0, .int .i32 0, .int .i64 0, .int .i32 0, .int .i32 0, .int .i64 0, .int .i64 0] ?hx ?hy 49 #[.int .i16 e, .int .i8 n, .int .i32 s0, .int .i32 r0, .int .i64 o0, .int .i32 s1, .int .i32 r1, .int .i64 o1, .int .i32 s2, .int .i32 r2, .int .i64 o2, .int .i32 s3, .int .i32 r3, .int .i64 o3, .int .i32 s4, .int .i32 r4, .int .i64 o4, .int .i64 la] ?hg size49 rfl (one18 _ _ _ _ _ _ _ _ _ _ _ _ _ _ _ _ _ _) ?_)
  case hx => rfl
  case hy => rfl
  case hg => exact hg14 _ _ _ _
  go_region
  go_wp2
  go_end0
  exact ⟨rfl, _, rfl⟩

set_option maxHeartbeats 2000000 in
theorem add1 (X : World) (k : Nat) (e s0 s1 s2 s3 s4 r0 r1 r2 r3 r4 o0 o1 o2 o3 o4 la hs hr bo at_ : Int) :
    Calls Trym.prog 14 #[.pointer (some ⟨X.heap.size, 0, none⟩), .agg #[.int .i64 0, .int .i32 0, .int .i32 0, .int .i8 0, .int .u32 0, .int .i16 0, .int .i32 0, .int .i64 0, .int .i64 0, .int .i64 0, .int .i16 e, .int .i32 hs, .int .i32 hr], .int .i64 bo, .int .i64 at_]
      ((X.alloc (.cells #[.int .i16 e, .int .i8 1, .int .i32 s0, .int .i32 r0, .int .i64 o0, .int .i32 s1, .int .i32 r1, .int .i64 o1, .int .i32 s2, .int .i32 r2, .int .i64 o2, .int .i32 s3, .int .i32 r3, .int .i64 o3, .int .i32 s4, .int .i32 r4, .int .i64 o4, .int .i64 la] 49)).drewN k) fun en w' => en = .returned (.tuple #[]) ∧
      ∃ m, w' = ((X.alloc (.cells #[.int .i16 e, .int .i8 2, .int .i32 s0, .int .i32 r0, .int .i64 o0, .int .i32 hs, .int .i32 hr, .int .i64 bo, .int .i32 s2, .int .i32 r2, .int .i64 o2, .int .i32 s3, .int .i32 r3, .int .i64 o3, .int .i32 s4, .int .i32 r4, .int .i64 o4, .int .i64 at_] 49)).alloc (.cells #[.int .i64 0, .int .i32 0, .int .i32 0, .int .i8 0, .int .u32 0, .int .i16 0, .int .i32 0, .int .i64 0, .int .i64 0, .int .i64 0, .int .i16 e, .int .i32 hs, .int .i32 hr] 52)).drewN m := by
  go_enter Trym.func14, Trym.ntmps14
  go_wp2
  go_quiet (fail)
  go_wp2
  go_region
  go_wp2
  go_end0
  exact ⟨rfl, _, rfl⟩

set_option maxHeartbeats 2000000 in
theorem add2 (X : World) (k : Nat) (e s0 s1 s2 s3 s4 r0 r1 r2 r3 r4 o0 o1 o2 o3 o4 la hs hr bo at_ : Int) :
    Calls Trym.prog 14 #[.pointer (some ⟨X.heap.size, 0, none⟩), .agg #[.int .i64 0, .int .i32 0, .int .i32 0, .int .i8 0, .int .u32 0, .int .i16 0, .int .i32 0, .int .i64 0, .int .i64 0, .int .i64 0, .int .i16 e, .int .i32 hs, .int .i32 hr], .int .i64 bo, .int .i64 at_]
      ((X.alloc (.cells #[.int .i16 e, .int .i8 2, .int .i32 s0, .int .i32 r0, .int .i64 o0, .int .i32 s1, .int .i32 r1, .int .i64 o1, .int .i32 s2, .int .i32 r2, .int .i64 o2, .int .i32 s3, .int .i32 r3, .int .i64 o3, .int .i32 s4, .int .i32 r4, .int .i64 o4, .int .i64 la] 49)).drewN k) fun en w' => en = .returned (.tuple #[]) ∧
      ∃ m, w' = ((X.alloc (.cells #[.int .i16 e, .int .i8 3, .int .i32 s0, .int .i32 r0, .int .i64 o0, .int .i32 s1, .int .i32 r1, .int .i64 o1, .int .i32 hs, .int .i32 hr, .int .i64 bo, .int .i32 s3, .int .i32 r3, .int .i64 o3, .int .i32 s4, .int .i32 r4, .int .i64 o4, .int .i64 at_] 49)).alloc (.cells #[.int .i64 0, .int .i32 0, .int .i32 0, .int .i8 0, .int .u32 0, .int .i16 0, .int .i32 0, .int .i64 0, .int .i64 0, .int .i64 0, .int .i16 e, .int .i32 hs, .int .i32 hr] 52)).drewN m := by
  go_enter Trym.func14, Trym.ntmps14
  go_wp2
  go_quiet (fail)
  go_wp2
  go_region
  go_wp2
  go_end0
  exact ⟨rfl, _, rfl⟩

set_option maxHeartbeats 2000000 in
theorem add3 (X : World) (k : Nat) (e s0 s1 s2 s3 s4 r0 r1 r2 r3 r4 o0 o1 o2 o3 o4 la hs hr bo at_ : Int) :
    Calls Trym.prog 14 #[.pointer (some ⟨X.heap.size, 0, none⟩), .agg #[.int .i64 0, .int .i32 0, .int .i32 0, .int .i8 0, .int .u32 0, .int .i16 0, .int .i32 0, .int .i64 0, .int .i64 0, .int .i64 0, .int .i16 e, .int .i32 hs, .int .i32 hr], .int .i64 bo, .int .i64 at_]
      ((X.alloc (.cells #[.int .i16 e, .int .i8 3, .int .i32 s0, .int .i32 r0, .int .i64 o0, .int .i32 s1, .int .i32 r1, .int .i64 o1, .int .i32 s2, .int .i32 r2, .int .i64 o2, .int .i32 s3, .int .i32 r3, .int .i64 o3, .int .i32 s4, .int .i32 r4, .int .i64 o4, .int .i64 la] 49)).drewN k) fun en w' => en = .returned (.tuple #[]) ∧
      ∃ m, w' = ((X.alloc (.cells #[.int .i16 e, .int .i8 4, .int .i32 s0, .int .i32 r0, .int .i64 o0, .int .i32 s1, .int .i32 r1, .int .i64 o1, .int .i32 s2, .int .i32 r2, .int .i64 o2, .int .i32 hs, .int .i32 hr, .int .i64 bo, .int .i32 s4, .int .i32 r4, .int .i64 o4, .int .i64 at_] 49)).alloc (.cells #[.int .i64 0, .int .i32 0, .int .i32 0, .int .i8 0, .int .u32 0, .int .i16 0, .int .i32 0, .int .i64 0, .int .i64 0, .int .i64 0, .int .i16 e, .int .i32 hs, .int .i32 hr] 52)).drewN m := by
  go_enter Trym.func14, Trym.ntmps14
  go_wp2
  go_quiet (fail)
  go_wp2
  go_region
  go_wp2
  go_end0
  exact ⟨rfl, _, rfl⟩

set_option maxHeartbeats 2000000 in
theorem add4 (X : World) (k : Nat) (e s0 s1 s2 s3 s4 r0 r1 r2 r3 r4 o0 o1 o2 o3 o4 la hs hr bo at_ : Int) :
    Calls Trym.prog 14 #[.pointer (some ⟨X.heap.size, 0, none⟩), .agg #[.int .i64 0, .int .i32 0, .int .i32 0, .int .i8 0, .int .u32 0, .int .i16 0, .int .i32 0, .int .i64 0, .int .i64 0, .int .i64 0, .int .i16 e, .int .i32 hs, .int .i32 hr], .int .i64 bo, .int .i64 at_]
      ((X.alloc (.cells #[.int .i16 e, .int .i8 4, .int .i32 s0, .int .i32 r0, .int .i64 o0, .int .i32 s1, .int .i32 r1, .int .i64 o1, .int .i32 s2, .int .i32 r2, .int .i64 o2, .int .i32 s3, .int .i32 r3, .int .i64 o3, .int .i32 s4, .int .i32 r4, .int .i64 o4, .int .i64 la] 49)).drewN k) fun en w' => en = .returned (.tuple #[]) ∧
      ∃ m, w' = ((X.alloc (.cells #[.int .i16 e, .int .i8 5, .int .i32 s0, .int .i32 r0, .int .i64 o0, .int .i32 s1, .int .i32 r1, .int .i64 o1, .int .i32 s2, .int .i32 r2, .int .i64 o2, .int .i32 s3, .int .i32 r3, .int .i64 o3, .int .i32 hs, .int .i32 hr, .int .i64 bo, .int .i64 at_] 49)).alloc (.cells #[.int .i64 0, .int .i32 0, .int .i32 0, .int .i8 0, .int .u32 0, .int .i16 0, .int .i32 0, .int .i64 0, .int .i64 0, .int .i64 0, .int .i16 e, .int .i32 hs, .int .i32 hr] 52)).drewN m := by
  go_enter Trym.func14, Trym.ntmps14
  go_wp2
  go_quiet (fail)
  go_wp2
  go_region
  go_wp2
  go_end0
  exact ⟨rfl, _, rfl⟩

set_option maxHeartbeats 2000000 in
theorem add5 (X : World) (k : Nat) (e s0 s1 s2 s3 s4 r0 r1 r2 r3 r4 o0 o1 o2 o3 o4 la hs hr bo at_ : Int) :
    Calls Trym.prog 14 #[.pointer (some ⟨X.heap.size, 0, none⟩), .agg #[.int .i64 0, .int .i32 0, .int .i32 0, .int .i8 0, .int .u32 0, .int .i16 0, .int .i32 0, .int .i64 0, .int .i64 0, .int .i64 0, .int .i16 e, .int .i32 hs, .int .i32 hr], .int .i64 bo, .int .i64 at_]
      ((X.alloc (.cells #[.int .i16 e, .int .i8 5, .int .i32 s0, .int .i32 r0, .int .i64 o0, .int .i32 s1, .int .i32 r1, .int .i64 o1, .int .i32 s2, .int .i32 r2, .int .i64 o2, .int .i32 s3, .int .i32 r3, .int .i64 o3, .int .i32 s4, .int .i32 r4, .int .i64 o4, .int .i64 la] 49)).drewN k) fun en w' => en = .returned (.tuple #[]) ∧
      ∃ m, w' = ((X.alloc (.cells #[.int .i16 e, .int .i8 5, .int .i32 s1, .int .i32 r1, .int .i64 o1, .int .i32 s2, .int .i32 r2, .int .i64 o2, .int .i32 s3, .int .i32 r3, .int .i64 o3, .int .i32 s4, .int .i32 r4, .int .i64 o4, .int .i32 hs, .int .i32 hr, .int .i64 bo, .int .i64 at_] 49)).alloc (.cells #[.int .i64 0, .int .i32 0, .int .i32 0, .int .i8 0, .int .u32 0, .int .i16 0, .int .i32 0, .int .i64 0, .int .i64 0, .int .i64 0, .int .i16 e, .int .i32 hs, .int .i32 hr] 52)).drewN m := by
  have hcp := fun n => shift X #[.int .i16 e, .int .i8 5, .int .i32 s0, .int .i32 r0, .int .i64 o0, .int .i32 s1, .int .i32 r1, .int .i64 o1, .int .i32 s2, .int .i32 r2, .int .i64 o2, .int .i32 s3, .int .i32 r3, .int .i64 o3, .int .i32 s4, .int .i32 r4, .int .i64 o4, .int .i64 la] #[.int .i64 0, .int .i32 0, .int .i32 0, .int .i8 0, .int .u32 0, .int .i16 0, .int .i32 0, .int .i64 0, .int .i64 0, .int .i64 0, .int .i16 e, .int .i32 hs, .int .i32 hr] n rfl (by simp [Value.oneCell'])
  simp only [List.take_succ_cons, List.take_zero, List.drop_succ_cons, List.drop_zero, List.cons_append, List.nil_append] at hcp
  go_enter Trym.func14, Trym.ntmps14
  go_wp2
  go_quiet (fail)
  go_wp2
  go_region
  go_wp2
  go_region
  go_wp2
  go_end0
  exact ⟨rfl, _, rfl⟩
end Go.Proofs.Qxb6605174aMods.Add
