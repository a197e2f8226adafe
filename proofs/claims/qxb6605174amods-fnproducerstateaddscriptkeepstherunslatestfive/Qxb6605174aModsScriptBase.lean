/- What the script law's walk is told of its slices, and what the copies are. -/
import Derived.Test.Qxb6605174aModsCopyFns
import Derived.Test.Qxb6605174aModsScriptStep
import Derived.Test.Qxb6605174aModsRegionLaw
import Derived.LoopN
namespace Go.Proofs.Qxb6605174aMods.Script
open Go.RowKit

/-- A slice of integers that came in: nil, or a row of 'cap' cells. -/
def IsRow (k : IntKind) (w : World) (a : Option Addr) (len cap : Nat) (zs : List Int) : Prop :=
  (a = none ∧ len = 0 ∧ cap = 0 ∧ zs = []) ∨
  ∃ x, a = some x ∧ len ≤ cap ∧ cap ≤ maxLen ∧ zs.length = cap ∧ (∀ i, i < zs.length → w.cell? (x.add i) = some (.int k (zs.getD i 0))) ∧ ∀ n ∈ zs, (Lit.int k n).wf = true

theorem IsRow.below {k : IntKind} {w w' : World} {a : Option Addr} {len cap : Nat} {zs : List Int} (h : IsRow k w a len cap zs) (hb : Below w.heap.size w w') : IsRow k w' a len cap zs := by
  rcases h with h | ⟨x, h1, h2, h3, h4, h5, h6⟩
  · exact .inl h
  · refine .inr ⟨x, h1, h2, h3, h4, fun i hi => ?_, h6⟩
    rw [hb.cell (p := x.add i) (block_lt_of_cell (h5 i hi))]
    exact h5 i hi

/-- A slice of the call's own: empty, or the whole of a new row. -/
def NewAt (k : IntKind) (w : World) (a : Option Addr) (e : TypeId) (len : Nat) (zs : List Int) : Prop :=
  len = 0 ∨ ∃ g, a = some ⟨g, 0, none⟩ ∧ g < w.heap.size ∧ IsNew k w g e len zs

theorem IsNew.below {k : IntKind} {w w' : World} {B g : Nat} {e : TypeId} {len : Nat} {zs : List Int} (h : IsNew k w g e len zs) (hb : Below B w w') (hg : g < B) : IsNew k w' g e len zs := by
  obtain ⟨cs, h1, h2, h3⟩ := h
  exact ⟨cs, by rw [hb.block g hg]; exact h1, h2, h3⟩
theorem NewAt.below {k : IntKind} {w w' : World} {a : Option Addr} {e : TypeId} {len : Nat} {zs : List Int} (h : NewAt k w a e len zs) (hb : Below w.heap.size w w') : NewAt k w' a e len zs := by
  rcases h with h | ⟨g, h1, h2, h3⟩
  · exact .inl h
  · exact .inr ⟨g, h1, Nat.lt_of_lt_of_le h2 hb.size, h3.below hb h2⟩
theorem IsNew.cell {k : IntKind} {w : World} {g : Nat} {e : TypeId} {len : Nat} {zs : List Int} (h : IsNew k w g e len zs) (i : Nat) (hi : i < len) : w.cell? ⟨g, i, none⟩ = some (.int k (zs.getD i 0)) := by
  obtain ⟨cs, h1, h2, h3⟩ := h
  rw [cell_of_row w g i cs e (0, 0) h1]
  exact h3 i hi

set_option maxHeartbeats 400000 in
theorem none10 (w : World) (x : Addr) (cap : Nat) :
    Calls Trym.prog 10 #[.slice (some x) 0 cap] w fun e w' => e = .returned (.slice (some ⟨w.heap.size, 0, none⟩) 0 0) ∧ Below w.heap.size w w' := by
  have hq := fun (w : World) => Lib.run_eql_slice_nil (P := Trym.prog) w 38 29 (some x) 0 cap 0 0 Trym.underlying38
  have hmk : ∀ w, (Instr.makeSlice 38 (.int .i64 0) (.int .i64 0)).run Trym.prog w = .ok (.slice (some ⟨w.heap.size, 0, none⟩) 0 0) (w.alloc (.cells (madeCells #[.int .i16 0] 0) 29)) := fun w => make10 w 0 (by omega)
  go_enter Trym.func10, Trym.ntmps10
  go_wp2
  refine wp_loop_rounds 1 ?_
  rw [rounds_succ]
  go_wp2
  go_ret
  exact ⟨rfl, (Below.refl _ _).alloc (Nat.le_refl _) _⟩

theorem cp10 (w : World) (a : Option Addr) (len cap : Nat) (zs : List Int) (h : IsRow .i16 w a len cap zs) (hl : len ≤ 65536) :
    Calls Trym.prog 10 #[.slice a len cap] w fun e w' => ∃ a', e = .returned (.slice a' len len) ∧ NewAt .i16 w' a' 29 len zs ∧ Below w.heap.size w w' := by
  rcases h with ⟨rfl, rfl, rfl, rfl⟩ | ⟨x, rfl, h2, h3, h4, h5, h6⟩
  · refine (nil10 w).mono fun e w' ⟨he, hw⟩ => ?_
    subst he hw
    exact ⟨none, rfl, .inl rfl, Below.refl _ _⟩
  · by_cases h0 : len = 0
    · subst h0
      refine (none10 w x cap).mono fun e w' ⟨he, hb⟩ => ?_
      subst he
      exact ⟨_, rfl, .inl rfl, hb⟩
    · obtain ⟨b, off, rfl, hc⟩ := ints_at h5 (by omega)
      refine (copy10 w b off len cap zs hl (fun i hi => hc i (by omega))).mono fun e w' ⟨he, hn, hb⟩ => ?_
      subst he
      refine ⟨_, rfl, .inr ⟨w.heap.size, rfl, ?_, hn⟩, hb⟩
      obtain ⟨cs, h1, _⟩ := hn
      exact (Array.getElem?_eq_some_iff.1 h1).1

set_option maxHeartbeats 400000 in
theorem none11 (w : World) (x : Addr) (cap : Nat) :
    Calls Trym.prog 11 #[.slice (some x) 0 cap] w fun e w' => e = .returned (.slice (some ⟨w.heap.size, 0, none⟩) 0 0) ∧ Below w.heap.size w w' := by
  have hq := fun (w : World) => Lib.run_eql_slice_nil (P := Trym.prog) w 39 21 (some x) 0 cap 0 0 Trym.underlying39
  have hmk : ∀ w, (Instr.makeSlice 39 (.int .i64 0) (.int .i64 0)).run Trym.prog w = .ok (.slice (some ⟨w.heap.size, 0, none⟩) 0 0) (w.alloc (.cells (madeCells #[.int .i32 0] 0) 21)) := fun w => make11 w 0 (by omega)
  go_enter Trym.func11, Trym.ntmps11
  go_wp2
  refine wp_loop_rounds 1 ?_
  rw [rounds_succ]
  go_wp2
  go_ret
  exact ⟨rfl, (Below.refl _ _).alloc (Nat.le_refl _) _⟩

theorem cp11 (w : World) (a : Option Addr) (len cap : Nat) (zs : List Int) (h : IsRow .i32 w a len cap zs) (hl : len ≤ 65536) :
    Calls Trym.prog 11 #[.slice a len cap] w fun e w' => ∃ a', e = .returned (.slice a' len len) ∧ NewAt .i32 w' a' 21 len zs ∧ Below w.heap.size w w' := by
  rcases h with ⟨rfl, rfl, rfl, rfl⟩ | ⟨x, rfl, h2, h3, h4, h5, h6⟩
  · refine (nil11 w).mono fun e w' ⟨he, hw⟩ => ?_
    subst he hw
    exact ⟨none, rfl, .inl rfl, Below.refl _ _⟩
  · by_cases h0 : len = 0
    · subst h0
      refine (none11 w x cap).mono fun e w' ⟨he, hb⟩ => ?_
      subst he
      exact ⟨_, rfl, .inl rfl, hb⟩
    · obtain ⟨b, off, rfl, hc⟩ := ints_at h5 (by omega)
      refine (copy11 w b off len cap zs hl (fun i hi => hc i (by omega))).mono fun e w' ⟨he, hn, hb⟩ => ?_
      subst he
      refine ⟨_, rfl, .inr ⟨w.heap.size, rfl, ?_, hn⟩, hb⟩
      obtain ⟨cs, h1, _⟩ := hn
      exact (Array.getElem?_eq_some_iff.1 h1).1

set_option maxHeartbeats 400000 in
theorem none12 (w : World) (x : Addr) (cap : Nat) :
    Calls Trym.prog 12 #[.slice (some x) 0 cap] w fun e w' => e = .returned (.slice (some ⟨w.heap.size, 0, none⟩) 0 0) ∧ Below w.heap.size w w' := by
  have hq := fun (w : World) => Lib.run_eql_slice_nil (P := Trym.prog) w 40 2 (some x) 0 cap 0 0 Trym.underlying40
  have hmk : ∀ w, (Instr.makeSlice 40 (.int .i64 0) (.int .i64 0)).run Trym.prog w = .ok (.slice (some ⟨w.heap.size, 0, none⟩) 0 0) (w.alloc (.cells (madeCells #[.int .i64 0] 0) 2)) := fun w => make12 w 0 (by omega)
  go_enter Trym.func12, Trym.ntmps12
  go_wp2
  refine wp_loop_rounds 1 ?_
  rw [rounds_succ]
  go_wp2
  go_ret
  exact ⟨rfl, (Below.refl _ _).alloc (Nat.le_refl _) _⟩

theorem cp12 (w : World) (a : Option Addr) (len cap : Nat) (zs : List Int) (h : IsRow .i64 w a len cap zs) (hl : len ≤ 65536) :
    Calls Trym.prog 12 #[.slice a len cap] w fun e w' => ∃ a', e = .returned (.slice a' len len) ∧ NewAt .i64 w' a' 2 len zs ∧ Below w.heap.size w w' := by
  rcases h with ⟨rfl, rfl, rfl, rfl⟩ | ⟨x, rfl, h2, h3, h4, h5, h6⟩
  · refine (nil12 w).mono fun e w' ⟨he, hw⟩ => ?_
    subst he hw
    exact ⟨none, rfl, .inl rfl, Below.refl _ _⟩
  · by_cases h0 : len = 0
    · subst h0
      refine (none12 w x cap).mono fun e w' ⟨he, hb⟩ => ?_
      subst he
      exact ⟨_, rfl, .inl rfl, hb⟩
    · obtain ⟨b, off, rfl, hc⟩ := ints_at h5 (by omega)
      refine (copy12 w b off len cap zs hl (fun i hi => hc i (by omega))).mono fun e w' ⟨he, hn, hb⟩ => ?_
      subst he
      refine ⟨_, rfl, .inr ⟨w.heap.size, rfl, ?_, hn⟩, hb⟩
      obtain ⟨cs, h1, _⟩ := hn
      exact (Array.getElem?_eq_some_iff.1 h1).1

set_option maxHeartbeats 1000000 in
theorem bytes_yes (w : World) (a0 a1 a2 a3 a4 : Option Addr) (l0 c0 l1 c1 l2 c2 l3 c3 l4 c4 : Nat) (h : l0 + l1 + l2 + l3 + l4 ≤ 1048576) :
    Calls Trym.prog 9 #[.slice a0 l0 c0, .slice a1 l1 c1, .slice a2 l2 c2, .slice a3 l3 c3, .slice a4 l4 c4] w fun e w' => e = .returned (.bool true) ∧ w' = w := by
  go_enter Trym.func9, Trym.ntmps9
  go_wp2
  go_ret
  exact ⟨rfl, rfl⟩

set_option maxHeartbeats 1000000 in
theorem bytes_no (w : World) (a0 a1 a2 a3 a4 : Option Addr) (l0 c0 l1 c1 l2 c2 l3 c3 l4 c4 : Nat) (h : ¬ l0 + l1 + l2 + l3 + l4 ≤ 1048576)
    (h0 : l0 ≤ maxLen) (h1 : l1 ≤ maxLen) (h2 : l2 ≤ maxLen) (h3 : l3 ≤ maxLen) (h4 : l4 ≤ maxLen) :
    Calls Trym.prog 9 #[.slice a0 l0 c0, .slice a1 l1 c1, .slice a2 l2 c2, .slice a3 l3 c3, .slice a4 l4 c4] w fun e w' => e = .returned (.bool false) ∧ w' = w := by
  unfold maxLen at h0 h1 h2 h3 h4
  go_enter Trym.func9, Trym.ntmps9
  go_wp2
  all_goals
    go_ret
    exact ⟨rfl, rfl⟩
end Go.Proofs.Qxb6605174aMods.Script
