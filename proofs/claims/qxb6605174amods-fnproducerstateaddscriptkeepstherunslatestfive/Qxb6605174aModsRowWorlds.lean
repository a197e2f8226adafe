/- The worlds that the producer walks are written in: rows of new blocks, the draws outermost. -/
import Derived.Test.Qxb6605174aModsRows
import Derived.WalkKit
import Derived.WalkSpells
import Derived.RegionTactic
import Derived.Deep.QuietTactic
import Derived.BigQuiet
import Derived.BigRegion
namespace Go.Proofs.Qxb6605174aMods.Add
open Go.RowKit

theorem setCell_drewN (w : World) (n : Nat) (a : Addr) (v : Value) : (w.drewN n).setCell a v = (w.setCell a v).drewN n := rfl
theorem alloc_drewN (w : World) (n : Nat) (o : Obj) : (w.drewN n).alloc o = (w.alloc o).drewN n := rfl
theorem setRow_drewN (w : World) (n g : Nat) (cs : Array Value) : (w.drewN n).setRow g cs = (w.setRow g cs).drewN n := rfl
theorem setRow_alloc_at (w : World) (c : Array Value) (t : TypeId) (n : Nat) (cs : Array Value) (hn : n = w.heap.size) : (w.alloc (.cells c t)).setRow n cs = w.alloc (.cells cs t) := by
  subst hn
  unfold World.setRow World.alloc
  congr 1
  apply Array.ext
  · simp
  · intro k h1 h2
    simp only [Array.getElem_modify]
    by_cases hk : w.heap.size = k
    · subst hk; simp
    · have hk2 : k < w.heap.size := by simp at h2; omega
      simp [hk, Array.getElem_push_lt hk2]
theorem setRow_alloc_past (w : World) (o : Obj) (n : Nat) (cs : Array Value) (hn : n < w.heap.size) : (w.alloc o).setRow n cs = (w.setRow n cs).alloc o := by
  unfold World.setRow World.alloc
  congr 1
  apply Array.ext
  · simp
  · intro k h1 h2
    rw [Array.getElem_modify]
    by_cases hk : k < w.heap.size
    · rw [Array.getElem_push_lt hk, Array.getElem_push_lt (by simpa using hk), Array.getElem_modify]
    · have hk2 : k = w.heap.size := by simp at h1; omega
      subst hk2
      rw [if_neg (by omega), Array.getElem_push_eq]
      have e : ∀ (x : Array Obj) (m : Nat) (h : m < (x.push o).size), x.size = m → (x.push o)[m] = o := by
        intro x m h e; subst e; exact Array.getElem_push_eq
      exact (e _ _ _ (by simp)).symm
theorem hp_at (w : World) (o : Obj) (n : Nat) (hn : n = w.heap.size) : (w.alloc o).heap[n]? = some o := by
  subst hn
  show (w.heap.push o)[w.heap.size]? = some o
  simp
theorem hp_past (w : World) (o : Obj) (n : Nat) (hn : n < w.heap.size) : (w.alloc o).heap[n]? = w.heap[n]? := by
  show (w.heap.push o)[n]? = w.heap[n]?
  rw [Array.getElem?_push, if_neg (by omega)]
theorem below_draws {B : Nat} {a w : World} (n : Nat) (h : Below B a w) : Below B a (w.drewN n) := ⟨h.os, h.tape, h.output, h.size, h.block⟩
theorem size49 : (Trym.prog.info? 49).map (·.size) = some 18 := by kernel_rfl
theorem one18 (e n s0 s1 s2 s3 s4 r0 r1 r2 r3 r4 o0 o1 o2 o3 o4 la : Int) : (#[.int .i16 e, .int .i8 n, .int .i32 s0, .int .i32 r0, .int .i64 o0, .int .i32 s1, .int .i32 r1, .int .i64 o1, .int .i32 s2, .int .i32 r2, .int .i64 o2, .int .i32 s3, .int .i32 r3, .int .i64 o3, .int .i32 s4, .int .i32 r4, .int .i64 o4, .int .i64 la] : Array Value).all (·.oneCell') = true := by
  simp [Value.oneCell']
end Go.Proofs.Qxb6605174aMods.Add
