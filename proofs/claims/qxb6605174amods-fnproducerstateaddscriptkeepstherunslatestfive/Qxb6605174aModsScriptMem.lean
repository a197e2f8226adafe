/- The script law's memory, round by round. -/
import Derived.Test.Qxb6605174aModsScriptBase
import Derived.Test.Qxb6605174aModsRowWorlds
namespace Go.Proofs.Qxb6605174aMods.Script
open Go.RowKit

/-- The three rows of the state, the five rows of the copies, all else as it was. -/
def Mem (W w : World) (gs g0 g1 g2 g3 g4 l0 l1 l2 l3 l4 : Nat) (q0 q1 q2 q3 q4 : List Int) (k n : Nat) : Prop :=
  w.heap[gs]? = some (.cells #[.int .i32 (win q1 k n 0), .int .i32 (win q1 k n 1), .int .i32 (win q1 k n 2), .int .i32 (win q1 k n 3), .int .i32 (win q1 k n 4)] 31 (0, 0)) ∧ w.heap[gs + 1]? = some (.cells #[.int .i32 (win q2 k n 0), .int .i32 (win q2 k n 1), .int .i32 (win q2 k n 2), .int .i32 (win q2 k n 3), .int .i32 (win q2 k n 4)] 31 (0, 0)) ∧ w.heap[gs + 1 + 1]? = some (.cells #[.int .i64 (win q3 k n 0), .int .i64 (win q3 k n 1), .int .i64 (win q3 k n 2), .int .i64 (win q3 k n 3), .int .i64 (win q3 k n 4)] 32 (0, 0)) ∧
  IsNew .i16 w g0 29 l0 q0 ∧ IsNew .i32 w g1 21 l1 q1 ∧ IsNew .i32 w g2 21 l2 q2 ∧ IsNew .i64 w g3 2 l3 q3 ∧ IsNew .i64 w g4 2 l4 q4 ∧
  Below W.heap.size W w ∧ g0 < gs ∧ g1 < gs ∧ g2 < gs ∧ g3 < gs ∧ g4 < gs ∧ W.heap.size ≤ gs

theorem lt_of_row {w : World} {g : Nat} {o : Obj} (h : w.heap[g]? = some o) : g < w.heap.size := (Array.getElem?_eq_some_iff.1 h).1

theorem IsNew.grow {k : IntKind} {w w' : World} {g : Nat} {e : TypeId} {len : Nat} {zs : List Int} (h : IsNew k w g e len zs) (hb : w'.heap[g]? = w.heap[g]?) : IsNew k w' g e len zs := by
  obtain ⟨cs, h1, h2, h3⟩ := h
  exact ⟨cs, by rw [hb]; exact h1, h2, h3⟩

theorem mem_start (W x5 : World) (g0 g1 g2 g3 g4 l0 l1 l2 l3 l4 : Nat) (q0 q1 q2 q3 q4 : List Int) (hb : Below W.heap.size W x5)
    (h0 : IsNew .i16 x5 g0 29 l0 q0) (h1 : IsNew .i32 x5 g1 21 l1 q1) (h2 : IsNew .i32 x5 g2 21 l2 q2) (h3 : IsNew .i64 x5 g3 2 l3 q3) (h4 : IsNew .i64 x5 g4 2 l4 q4)
    (b0 : g0 < x5.heap.size) (b1 : g1 < x5.heap.size) (b2 : g2 < x5.heap.size) (b3 : g3 < x5.heap.size) (b4 : g4 < x5.heap.size) :
    Mem W (((x5.alloc (.cells #[.int .i32 0, .int .i32 0, .int .i32 0, .int .i32 0, .int .i32 0] 31)).alloc (.cells #[.int .i32 0, .int .i32 0, .int .i32 0, .int .i32 0, .int .i32 0] 31)).alloc (.cells #[.int .i64 0, .int .i64 0, .int .i64 0, .int .i64 0, .int .i64 0] 32)) x5.heap.size g0 g1 g2 g3 g4 l0 l1 l2 l3 l4 q0 q1 q2 q3 q4 0 0 := by
  have old : ∀ g, g < x5.heap.size → (((x5.alloc (.cells #[.int .i32 0, .int .i32 0, .int .i32 0, .int .i32 0, .int .i32 0] 31)).alloc (.cells #[.int .i32 0, .int .i32 0, .int .i32 0, .int .i32 0, .int .i32 0] 31)).alloc (.cells #[.int .i64 0, .int .i64 0, .int .i64 0, .int .i64 0, .int .i64 0] 32)).heap[g]? = x5.heap[g]? := fun g hg => by
    rw [Add.hp_past _ _ _ (by simp only [World.size_alloc]; omega), Add.hp_past _ _ _ (by simp only [World.size_alloc]; omega), Add.hp_past _ _ _ hg]
  have hz := hb.size
  refine ⟨?_, ?_, ?_, h0.grow (old _ b0), h1.grow (old _ b1), h2.grow (old _ b2), h3.grow (old _ b3), h4.grow (old _ b4), ?_, b0, b1, b2, b3, b4, hz⟩
  · simp only [win_zero]
    rw [Add.hp_past _ _ _ (by simp only [World.size_alloc]; omega), Add.hp_past _ _ _ (by simp only [World.size_alloc]; omega), Add.hp_at _ _ _ rfl]
  · simp only [win_zero]
    rw [Add.hp_past _ _ _ (by simp only [World.size_alloc]; omega), Add.hp_at _ _ _ (by simp only [World.size_alloc])]
  · simp only [win_zero]
    rw [Add.hp_at _ _ _ (by simp only [World.size_alloc])]
  · exact ((hb.alloc hz _).alloc (by simp only [World.size_alloc]; omega) _).alloc (by simp only [World.size_alloc]; omega) _

/-- What the stores of a step find. -/
theorem mem_find {W w w1 : World} {gs g0 g1 g2 g3 g4 l0 l1 l2 l3 l4 : Nat} {q0 q1 q2 q3 q4 : List Int} {k n : Nat} (h : Mem W w gs g0 g1 g2 g3 g4 l0 l1 l2 l3 l4 q0 q1 q2 q3 q4 k n) (hb : Below w.heap.size w w1) (A B : Array Value) :
    w1.heap[gs]? = some (.cells #[.int .i32 (win q1 k n 0), .int .i32 (win q1 k n 1), .int .i32 (win q1 k n 2), .int .i32 (win q1 k n 3), .int .i32 (win q1 k n 4)] 31 (0, 0)) ∧ (w1.setRow gs A).heap[gs + 1]? = some (.cells #[.int .i32 (win q2 k n 0), .int .i32 (win q2 k n 1), .int .i32 (win q2 k n 2), .int .i32 (win q2 k n 3), .int .i32 (win q2 k n 4)] 31 (0, 0)) ∧
    ((w1.setRow gs A).setRow (gs + 1) B).heap[gs + 1 + 1]? = some (.cells #[.int .i64 (win q3 k n 0), .int .i64 (win q3 k n 1), .int .i64 (win q3 k n 2), .int .i64 (win q3 k n 3), .int .i64 (win q3 k n 4)] 32 (0, 0)) := by
  obtain ⟨h1, h2, h3, _⟩ := h
  refine ⟨by rw [hb.block _ (lt_of_row h1)]; exact h1, ?_, ?_⟩
  · rw [setRow_other _ _ _ _ (by omega), hb.block _ (lt_of_row h2)]; exact h2
  · rw [setRow_other _ _ _ _ (by omega), setRow_other _ _ _ _ (by omega), hb.block _ (lt_of_row h3)]; exact h3

theorem mem_step {W w w1 : World} {gs g0 g1 g2 g3 g4 l0 l1 l2 l3 l4 : Nat} {q0 q1 q2 q3 q4 : List Int} {k n : Nat} (m : Nat) (h : Mem W w gs g0 g1 g2 g3 g4 l0 l1 l2 l3 l4 q0 q1 q2 q3 q4 k n) (hb : Below w.heap.size w w1) :
    Mem W (((w1.setRow gs #[.int .i32 (win q1 (k + 1) m 0), .int .i32 (win q1 (k + 1) m 1), .int .i32 (win q1 (k + 1) m 2), .int .i32 (win q1 (k + 1) m 3), .int .i32 (win q1 (k + 1) m 4)]).setRow (gs + 1) #[.int .i32 (win q2 (k + 1) m 0), .int .i32 (win q2 (k + 1) m 1), .int .i32 (win q2 (k + 1) m 2), .int .i32 (win q2 (k + 1) m 3), .int .i32 (win q2 (k + 1) m 4)]).setRow (gs + 1 + 1) #[.int .i64 (win q3 (k + 1) m 0), .int .i64 (win q3 (k + 1) m 1), .int .i64 (win q3 (k + 1) m 2), .int .i64 (win q3 (k + 1) m 3), .int .i64 (win q3 (k + 1) m 4)]) gs g0 g1 g2 g3 g4 l0 l1 l2 l3 l4 q0 q1 q2 q3 q4 (k + 1) m := by
  obtain ⟨f1, f2, f3⟩ := mem_find h hb #[.int .i32 (win q1 (k + 1) m 0), .int .i32 (win q1 (k + 1) m 1), .int .i32 (win q1 (k + 1) m 2), .int .i32 (win q1 (k + 1) m 3), .int .i32 (win q1 (k + 1) m 4)] #[.int .i32 (win q2 (k + 1) m 0), .int .i32 (win q2 (k + 1) m 1), .int .i32 (win q2 (k + 1) m 2), .int .i32 (win q2 (k + 1) m 3), .int .i32 (win q2 (k + 1) m 4)]
  obtain ⟨h1, h2, h3, i0, i1, i2, i3, i4, hW, b0, b1, b2, b3, b4, hz⟩ := h
  have z3 := lt_of_row h3
  have old : ∀ g, g < gs → (((w1.setRow gs #[.int .i32 (win q1 (k + 1) m 0), .int .i32 (win q1 (k + 1) m 1), .int .i32 (win q1 (k + 1) m 2), .int .i32 (win q1 (k + 1) m 3), .int .i32 (win q1 (k + 1) m 4)]).setRow (gs + 1) #[.int .i32 (win q2 (k + 1) m 0), .int .i32 (win q2 (k + 1) m 1), .int .i32 (win q2 (k + 1) m 2), .int .i32 (win q2 (k + 1) m 3), .int .i32 (win q2 (k + 1) m 4)]).setRow (gs + 1 + 1) #[.int .i64 (win q3 (k + 1) m 0), .int .i64 (win q3 (k + 1) m 1), .int .i64 (win q3 (k + 1) m 2), .int .i64 (win q3 (k + 1) m 3), .int .i64 (win q3 (k + 1) m 4)]).heap[g]? = w.heap[g]? := fun g hg => by
    rw [setRow_other _ _ _ _ (by omega), setRow_other _ _ _ _ (by omega), setRow_other _ _ _ _ (by omega), hb.block _ (by omega)]
  refine ⟨?_, ?_, setRow_heap _ _ _ _ _ _ f3, i0.grow (old _ b0), i1.grow (old _ b1), i2.grow (old _ b2), i3.grow (old _ b3), i4.grow (old _ b4), ?_, b0, b1, b2, b3, b4, hz⟩
  · rw [setRow_other _ _ _ _ (by omega), setRow_other _ _ _ _ (by omega)]; exact setRow_heap _ _ _ _ _ _ f1
  · rw [setRow_other _ _ _ _ (by omega)]; exact setRow_heap _ _ _ _ _ _ f2
  · have hb' := hW.trans (hb.mono hW.size)
    refine ⟨hb'.os, hb'.tape, hb'.output, by simpa using hb'.size, fun j hj => ?_⟩
    rw [old j (by omega)]; exact hW.block j hj

/-- The cells, one by one. -/
theorem mem_cells {W w : World} {gs g0 g1 g2 g3 g4 l0 l1 l2 l3 l4 : Nat} {q0 q1 q2 q3 q4 : List Int} {k n : Nat} (h : Mem W w gs g0 g1 g2 g3 g4 l0 l1 l2 l3 l4 q0 q1 q2 q3 q4 k n) :
    (∀ j, j < 5 → w.cell? ⟨gs, j, none⟩ = some (.int .i32 (win q1 k n j))) ∧ (∀ j, j < 5 → w.cell? ⟨gs + 1, j, none⟩ = some (.int .i32 (win q2 k n j))) ∧ (∀ j, j < 5 → w.cell? ⟨gs + 1 + 1, j, none⟩ = some (.int .i64 (win q3 k n j))) ∧
    (∀ j, j < l0 → w.cell? ⟨g0, j, none⟩ = some (.int .i16 (q0.getD j 0))) ∧ (∀ j, j < l1 → w.cell? ⟨g1, j, none⟩ = some (.int .i32 (q1.getD j 0))) ∧ (∀ j, j < l2 → w.cell? ⟨g2, j, none⟩ = some (.int .i32 (q2.getD j 0))) ∧
    (∀ j, j < l3 → w.cell? ⟨g3, j, none⟩ = some (.int .i64 (q3.getD j 0))) ∧ (∀ j, j < l4 → w.cell? ⟨g4, j, none⟩ = some (.int .i64 (q4.getD j 0))) := by
  obtain ⟨h1, h2, h3, i0, i1, i2, i3, i4, _⟩ := h
  refine ⟨fun j hj => ?_, fun j hj => ?_, fun j hj => ?_, i0.cell, i1.cell, i2.cell, i3.cell, i4.cell⟩
  · rw [cell_of_row w _ j _ _ _ h1]; match j, hj with | 0, _ => rfl | 1, _ => rfl | 2, _ => rfl | 3, _ => rfl | 4, _ => rfl
  · rw [cell_of_row w _ j _ _ _ h2]; match j, hj with | 0, _ => rfl | 1, _ => rfl | 2, _ => rfl | 3, _ => rfl | 4, _ => rfl
  · rw [cell_of_row w _ j _ _ _ h3]; match j, hj with | 0, _ => rfl | 1, _ => rfl | 2, _ => rfl | 3, _ => rfl | 4, _ => rfl
theorem mem_below {W w : World} {gs g0 g1 g2 g3 g4 l0 l1 l2 l3 l4 : Nat} {q0 q1 q2 q3 q4 : List Int} {k n : Nat} (h : Mem W w gs g0 g1 g2 g3 g4 l0 l1 l2 l3 l4 q0 q1 q2 q3 q4 k n) : Below W.heap.size W w := h.2.2.2.2.2.2.2.2.1
theorem mem_draw {W w : World} {gs g0 g1 g2 g3 g4 l0 l1 l2 l3 l4 : Nat} {q0 q1 q2 q3 q4 : List Int} {k n : Nat} (h : Mem W w gs g0 g1 g2 g3 g4 l0 l1 l2 l3 l4 q0 q1 q2 q3 q4 k n) : Mem W w.drew gs g0 g1 g2 g3 g4 l0 l1 l2 l3 l4 q0 q1 q2 q3 q4 k n := by
  obtain ⟨h1, h2, h3, i0, i1, i2, i3, i4, hW, b⟩ := h
  exact ⟨h1, h2, h3, i0, i1, i2, i3, i4, hW.drew, b⟩
theorem mem_draws {W w : World} {gs g0 g1 g2 g3 g4 l0 l1 l2 l3 l4 : Nat} {q0 q1 q2 q3 q4 : List Int} {k n : Nat} (m : Nat) (h : Mem W w gs g0 g1 g2 g3 g4 l0 l1 l2 l3 l4 q0 q1 q2 q3 q4 k n) : Mem W (w.drewN m) gs g0 g1 g2 g3 g4 l0 l1 l2 l3 l4 q0 q1 q2 q3 q4 k n := by
  obtain ⟨h1, h2, h3, i0, i1, i2, i3, i4, hW, b⟩ := h
  exact ⟨h1, h2, h3, i0, i1, i2, i3, i4, Add.below_draws m hW, b⟩
theorem size31 : (Trym.prog.info? 31).map (·.size) = some 5 := by kernel_rfl
theorem size32 : (Trym.prog.info? 32).map (·.size) = some 5 := by kernel_rfl
theorem one5 (k : IntKind) (a b c d e : Int) : (#[.int k a, .int k b, .int k c, .int k d, .int k e] : Array Value).all (·.oneCell') = true := by simp [Value.oneCell']

/-! ### the plain law of a step -/
theorem nxt_zero (e he : Int) : nxt 0 e he = 1 := by simp [nxt]
theorem nxt_turn (n : Nat) (e he : Int) (h : he ≠ e) : nxt n e he = 1 := by simp [nxt, h]
theorem run_other {k n r n' : Nat} {e : Int} {q0 : List Int} (I : n = min 5 r ∧ (k = 0 → n = 0) ∧ (0 < k → 0 < n ∧ e = q0.getD (k - 1) 0)) (hn : nxt n e (q0.getD k 0) = n')
    (hs : false = decide (0 < k ∧ q0.getD k 0 = q0.getD (k - 1) 0)) : n' = min 5 1 := by
  obtain ⟨_, h2, h3⟩ := I
  have hs' := of_decide_eq_false hs.symm
  rcases Nat.eq_zero_or_pos k with h0 | h0
  · rw [h2 h0, nxt_zero] at hn; omega
  · rw [nxt_turn _ _ _ (fun h => hs' ⟨h0, by rw [h]; exact (h3 h0).2⟩)] at hn; omega
theorem run_same {k n r n' : Nat} {e : Int} {q0 : List Int} (I : n = min 5 r ∧ (k = 0 → n = 0) ∧ (0 < k → 0 < n ∧ e = q0.getD (k - 1) 0)) (hn : nxt n e (q0.getD k 0) = n')
    (hs : true = decide (0 < k ∧ q0.getD k 0 = q0.getD (k - 1) 0)) : n' = min 5 (r + 1) := by
  obtain ⟨h1, _, h3⟩ := I
  obtain ⟨h0, he⟩ := of_decide_eq_true hs.symm
  obtain ⟨h4, h5⟩ := h3 h0
  rw [he, ← h5] at hn
  have h6 : nxt n e e = if n = 5 then 5 else n + 1 := by simp [nxt]; omega
  rw [h6] at hn
  split at hn <;> omega
theorem win_in (q : List Int) (k n j T : Nat) (h : j < n) (hT : k - n + j = T) : win q k n j = q.getD T 0 := by unfold win; rw [if_pos h, hT]
theorem win_out (q : List Int) (k n j : Nat) (h : ¬ j < n) : win q k n j = 0 := by unfold win; rw [if_neg h]
theorem nxt_same (n : Nat) (e : Int) (hn : n ≠ 0) : nxt n e e = if n = 5 then 5 else n + 1 := by simp [nxt, hn]
end Go.Proofs.Qxb6605174aMods.Script
