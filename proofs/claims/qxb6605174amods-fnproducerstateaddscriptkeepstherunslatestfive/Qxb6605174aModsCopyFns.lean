/- The walks of the three copy functions. -/
import Derived.Test.Qxb6605174aModsRows
import Derived.WalkKit
import Derived.WalkSpells
import Derived.OpenShut
namespace Go.Proofs.Qxb6605174aMods.Script
open Go.RowKit

/-- A new row that holds the first 'len' numbers of 'zs'. -/
def IsNew (k : IntKind) (w : World) (g : Nat) (e : TypeId) (len : Nat) (zs : List Int) : Prop :=
  ∃ cs : Array Value, w.heap[g]? = some (.cells cs e (0, 0)) ∧ cs.size = len ∧ ∀ i, i < len → cs[i]? = some (.int k (zs.getD i 0))

/-- The copy's row, k numbers copied. -/
def Part (k : IntKind) (w : World) (g : Nat) (e : TypeId) (len m : Nat) (zs : List Int) : Prop :=
  ∃ cs : Array Value, w.heap[g]? = some (.cells cs e (0, 0)) ∧ cs.size = len ∧ ∀ i, i < m → cs[i]? = some (.int k (zs.getD i 0))

theorem part_cell {k : IntKind} {w : World} {g : Nat} {e : TypeId} {len m : Nat} {zs : List Int} (h : Part k w g e len m zs) (i : Nat) (hi : i < len) :
    (∃ v, w.cell? ⟨g, i, none⟩ = some v) ∧ w.frozen? ⟨g, i, none⟩ = false := by
  obtain ⟨cs, hg, hs, _⟩ := h
  refine ⟨⟨cs[i], ?_⟩, frozen_of_row w g i cs e hg⟩
  rw [cell_of_row w g i cs e (0, 0) hg]
  exact Array.getElem?_eq_getElem (by omega)

theorem part_step {k : IntKind} {w : World} {g : Nat} {e : TypeId} {len m : Nat} {zs : List Int} (h : Part k w g e len m zs) (hm : m < len) :
    Part k (w.setCell ⟨g, m, none⟩ (.int k (zs.getD m 0))) g e len (m + 1) zs := by
  obtain ⟨cs, hg, hs, hc⟩ := h
  refine ⟨cs.setIfInBounds m (.int k (zs.getD m 0)), heap_setCell_same w g m cs e _ hg, by simpa using hs, fun i hi => ?_⟩
  by_cases e : i = m
  · subst e; rw [Array.getElem?_setIfInBounds_self_of_lt (by omega)]
  · rw [Array.getElem?_setIfInBounds_ne (by omega)]; exact hc i (by omega)

theorem part_new (k : IntKind) (w : World) (cs : Array Value) (e : TypeId) (len : Nat) (zs : List Int) (h : cs.size = len) : Part k (w.alloc (.cells cs e)) w.heap.size e len 0 zs :=
  ⟨cs, by show (w.heap.push _)[w.heap.size]? = _; simp, h, fun i hi => absurd hi (by omega)⟩

theorem zero29 : (Trym.prog.info? 29).map (·.zero) = some (some (.int .i16 0)) := by kernel_rfl
theorem bytes29 : (Trym.prog.info? 29).map (·.bytes) = some 2 := by kernel_rfl
theorem size29 : (Trym.prog.info? 29).map (·.size) = some 1 := by kernel_rfl
theorem info29 : ∃ i, Trym.prog.info? 29 = some i ∧ i.zero = some (.int .i16 0) ∧ i.bytes = 2 ∧ i.size = 1 := by
  have h1 := zero29
  have h2 := bytes29
  have h3 := size29
  cases h : Trym.prog.info? 29 with
  | none => rw [h] at h1; cases h1
  | some i =>
    rw [h] at h1 h2 h3
    exact ⟨i, rfl, Option.some.inj h1, Option.some.inj h2, Option.some.inj h3⟩
theorem make10 (w : World) (n : Nat) (hn : n ≤ 65536) : (Instr.makeSlice 38 (.int .i64 (n : Int)) (.int .i64 (n : Int))).run Trym.prog w = .ok (.slice (some ⟨w.heap.size, 0, none⟩) n n) (w.alloc (.cells (madeCells #[.int .i16 0] n) 29)) := by
  obtain ⟨i, h1, h2, h3, h4⟩ := info29
  rw [run_make w 38 29 i _ Trym.underlying38 h1 h2 .i64 .i64 n n (by omega) (by omega) (by rw [h3]; omega) (by omega)]
  simp [h4, Value.cells]

set_option maxHeartbeats 400000 in
theorem nil10 (w : World) :
    Calls Trym.prog 10 #[.slice none 0 0] w fun e w' => e = .returned (.slice none 0 0) ∧ w' = w := by
  have hq := fun (w : World) => Lib.run_eql_slice_nil (P := Trym.prog) w 38 29 none 0 0 0 0 Trym.underlying38
  go_enter Trym.func10, Trym.ntmps10
  go_wp2
  go_ret
  exact ⟨rfl, rfl⟩

set_option maxHeartbeats 1000000 in
theorem copy10 (w : World) (b off len cap : Nat) (zs : List Int) (hlen : len ≤ 65536)
    (hc : ∀ i, i < len → w.cell? ⟨b, off + i, none⟩ = some (.int .i16 (zs.getD i 0))) :
    Calls Trym.prog 10 #[.slice (some ⟨b, off, none⟩) len cap] w fun e w' => e = .returned (.slice (some ⟨w.heap.size, 0, none⟩) len len) ∧ IsNew .i16 w' w.heap.size 29 len zs ∧ Below w.heap.size w w' := by
  have hq := fun (w : World) => Lib.run_eql_slice_nil (P := Trym.prog) w 38 29 (some ⟨b, off, none⟩) len cap 0 0 Trym.underlying38
  have hmk := fun (w : World) => make10 w len hlen
  have HC : Hid (∀ i, i < len → w.cell? ⟨b, off + i, none⟩ = some (.int .i16 (zs.getD i 0))) := hc
  clear hc
  go_enter Trym.func10, Trym.ntmps10
  go_wp2
  go_loopw [4] (fun i wr => ∃ m : Nat, m ≤ len ∧ i = .int .i64 m ∧ Part .i16 wr w.heap.size 29 len m zs ∧ Below w.heap.size w wr) (fun i _ => len - (intOf i).toNat)
  case atStart => exact ⟨0, Nat.zero_le _, rfl, part_new _ _ _ _ _ _ (size_madeCells _ _), (Below.refl _ _).alloc (Nat.le_refl _) _⟩
  case round =>
    obtain ⟨m, hm, rfl, hp, hb⟩ := hrel
    by_cases hlt : m < len
    · have hcm := HC.out m hlt
      have hbl : b < w.heap.size := block_lt_of_cell hcm
      have hcell : wr.cell? ⟨b, off + m, none⟩ = some (.int .i16 (zs.getD m 0)) := (hb.cell (p := ⟨b, off + m, none⟩) hbl).trans hcm
      obtain ⟨⟨v, hv⟩, hfz⟩ := part_cell hp m hlt
      have HP : Hid (Part .i16 wr w.heap.size 29 len m zs) := hp
      have HB : Hid (Below w.heap.size w wr) := hb
      clear hp hb hcm
      go_wp2
      go_roundw
      case rel => exact ⟨m + 1, by omega, by go_num, part_step HP.out hlt, HB.out.setCell (Nat.le_refl _) _⟩
      case measure => simp [intOf]; omega
    · obtain rfl : m = len := by omega
      have HP : Hid (Part .i16 wr w.heap.size 29 m m zs) := hp
      have HB : Hid (Below w.heap.size w wr) := hb
      clear hp hb
      go_wp2
      go_ret
      exact ⟨rfl, HP.out, HB.out⟩

theorem zero21 : (Trym.prog.info? 21).map (·.zero) = some (some (.int .i32 0)) := by kernel_rfl
theorem bytes21 : (Trym.prog.info? 21).map (·.bytes) = some 4 := by kernel_rfl
theorem size21 : (Trym.prog.info? 21).map (·.size) = some 1 := by kernel_rfl
theorem info21 : ∃ i, Trym.prog.info? 21 = some i ∧ i.zero = some (.int .i32 0) ∧ i.bytes = 4 ∧ i.size = 1 := by
  have h1 := zero21
  have h2 := bytes21
  have h3 := size21
  cases h : Trym.prog.info? 21 with
  | none => rw [h] at h1; cases h1
  | some i =>
    rw [h] at h1 h2 h3
    exact ⟨i, rfl, Option.some.inj h1, Option.some.inj h2, Option.some.inj h3⟩
theorem make11 (w : World) (n : Nat) (hn : n ≤ 65536) : (Instr.makeSlice 39 (.int .i64 (n : Int)) (.int .i64 (n : Int))).run Trym.prog w = .ok (.slice (some ⟨w.heap.size, 0, none⟩) n n) (w.alloc (.cells (madeCells #[.int .i32 0] n) 21)) := by
  obtain ⟨i, h1, h2, h3, h4⟩ := info21
  rw [run_make w 39 21 i _ Trym.underlying39 h1 h2 .i64 .i64 n n (by omega) (by omega) (by rw [h3]; omega) (by omega)]
  simp [h4, Value.cells]

set_option maxHeartbeats 400000 in
theorem nil11 (w : World) :
    Calls Trym.prog 11 #[.slice none 0 0] w fun e w' => e = .returned (.slice none 0 0) ∧ w' = w := by
  have hq := fun (w : World) => Lib.run_eql_slice_nil (P := Trym.prog) w 39 21 none 0 0 0 0 Trym.underlying39
  go_enter Trym.func11, Trym.ntmps11
  go_wp2
  go_ret
  exact ⟨rfl, rfl⟩

set_option maxHeartbeats 1000000 in
theorem copy11 (w : World) (b off len cap : Nat) (zs : List Int) (hlen : len ≤ 65536)
    (hc : ∀ i, i < len → w.cell? ⟨b, off + i, none⟩ = some (.int .i32 (zs.getD i 0))) :
    Calls Trym.prog 11 #[.slice (some ⟨b, off, none⟩) len cap] w fun e w' => e = .returned (.slice (some ⟨w.heap.size, 0, none⟩) len len) ∧ IsNew .i32 w' w.heap.size 21 len zs ∧ Below w.heap.size w w' := by
  have hq := fun (w : World) => Lib.run_eql_slice_nil (P := Trym.prog) w 39 21 (some ⟨b, off, none⟩) len cap 0 0 Trym.underlying39
  have hmk := fun (w : World) => make11 w len hlen
  have HC : Hid (∀ i, i < len → w.cell? ⟨b, off + i, none⟩ = some (.int .i32 (zs.getD i 0))) := hc
  clear hc
  go_enter Trym.func11, Trym.ntmps11
  go_wp2
  go_loopw [4] (fun i wr => ∃ m : Nat, m ≤ len ∧ i = .int .i64 m ∧ Part .i32 wr w.heap.size 21 len m zs ∧ Below w.heap.size w wr) (fun i _ => len - (intOf i).toNat)
  case atStart => exact ⟨0, Nat.zero_le _, rfl, part_new _ _ _ _ _ _ (size_madeCells _ _), (Below.refl _ _).alloc (Nat.le_refl _) _⟩
  case round =>
    obtain ⟨m, hm, rfl, hp, hb⟩ := hrel
    by_cases hlt : m < len
    · have hcm := HC.out m hlt
      have hbl : b < w.heap.size := block_lt_of_cell hcm
      have hcell : wr.cell? ⟨b, off + m, none⟩ = some (.int .i32 (zs.getD m 0)) := (hb.cell (p := ⟨b, off + m, none⟩) hbl).trans hcm
      obtain ⟨⟨v, hv⟩, hfz⟩ := part_cell hp m hlt
      have HP : Hid (Part .i32 wr w.heap.size 21 len m zs) := hp
      have HB : Hid (Below w.heap.size w wr) := hb
      clear hp hb hcm
      go_wp2
      go_roundw
      case rel => exact ⟨m + 1, by omega, by go_num, part_step HP.out hlt, HB.out.setCell (Nat.le_refl _) _⟩
      case measure => simp [intOf]; omega
    · obtain rfl : m = len := by omega
      have HP : Hid (Part .i32 wr w.heap.size 21 m m zs) := hp
      have HB : Hid (Below w.heap.size w wr) := hb
      clear hp hb
      go_wp2
      go_ret
      exact ⟨rfl, HP.out, HB.out⟩

theorem zero2 : (Trym.prog.info? 2).map (·.zero) = some (some (.int .i64 0)) := by kernel_rfl
theorem bytes2 : (Trym.prog.info? 2).map (·.bytes) = some 8 := by kernel_rfl
theorem size2 : (Trym.prog.info? 2).map (·.size) = some 1 := by kernel_rfl
theorem info2 : ∃ i, Trym.prog.info? 2 = some i ∧ i.zero = some (.int .i64 0) ∧ i.bytes = 8 ∧ i.size = 1 := by
  have h1 := zero2
  have h2 := bytes2
  have h3 := size2
  cases h : Trym.prog.info? 2 with
  | none => rw [h] at h1; cases h1
  | some i =>
    rw [h] at h1 h2 h3
    exact ⟨i, rfl, Option.some.inj h1, Option.some.inj h2, Option.some.inj h3⟩
theorem make12 (w : World) (n : Nat) (hn : n ≤ 65536) : (Instr.makeSlice 40 (.int .i64 (n : Int)) (.int .i64 (n : Int))).run Trym.prog w = .ok (.slice (some ⟨w.heap.size, 0, none⟩) n n) (w.alloc (.cells (madeCells #[.int .i64 0] n) 2)) := by
  obtain ⟨i, h1, h2, h3, h4⟩ := info2
  rw [run_make w 40 2 i _ Trym.underlying40 h1 h2 .i64 .i64 n n (by omega) (by omega) (by rw [h3]; omega) (by omega)]
  simp [h4, Value.cells]

set_option maxHeartbeats 400000 in
theorem nil12 (w : World) :
    Calls Trym.prog 12 #[.slice none 0 0] w fun e w' => e = .returned (.slice none 0 0) ∧ w' = w := by
  have hq := fun (w : World) => Lib.run_eql_slice_nil (P := Trym.prog) w 40 2 none 0 0 0 0 Trym.underlying40
  go_enter Trym.func12, Trym.ntmps12
  go_wp2
  go_ret
  exact ⟨rfl, rfl⟩

set_option maxHeartbeats 1000000 in
theorem copy12 (w : World) (b off len cap : Nat) (zs : List Int) (hlen : len ≤ 65536)
    (hc : ∀ i, i < len → w.cell? ⟨b, off + i, none⟩ = some (.int .i64 (zs.getD i 0))) :
    Calls Trym.prog 12 #[.slice (some ⟨b, off, none⟩) len cap] w fun e w' => e = .returned (.slice (some ⟨w.heap.size, 0, none⟩) len len) ∧ IsNew .i64 w' w.heap.size 2 len zs ∧ Below w.heap.size w w' := by
  have hq := fun (w : World) => Lib.run_eql_slice_nil (P := Trym.prog) w 40 2 (some ⟨b, off, none⟩) len cap 0 0 Trym.underlying40
  have hmk := fun (w : World) => make12 w len hlen
  have HC : Hid (∀ i, i < len → w.cell? ⟨b, off + i, none⟩ = some (.int .i64 (zs.getD i 0))) := hc
  clear hc
  go_enter Trym.func12, Trym.ntmps12
  go_wp2
  go_loopw [4] (fun i wr => ∃ m : Nat, m ≤ len ∧ i = .int .i64 m ∧ Part .i64 wr w.heap.size 2 len m zs ∧ Below w.heap.size w wr) (fun i _ => len - (intOf i).toNat)
  case atStart => exact ⟨0, Nat.zero_le _, rfl, part_new _ _ _ _ _ _ (size_madeCells _ _), (Below.refl _ _).alloc (Nat.le_refl _) _⟩
  case round =>
    obtain ⟨m, hm, rfl, hp, hb⟩ := hrel
    by_cases hlt : m < len
    · have hcm := HC.out m hlt
      have hbl : b < w.heap.size := block_lt_of_cell hcm
      have hcell : wr.cell? ⟨b, off + m, none⟩ = some (.int .i64 (zs.getD m 0)) := (hb.cell (p := ⟨b, off + m, none⟩) hbl).trans hcm
      obtain ⟨⟨v, hv⟩, hfz⟩ := part_cell hp m hlt
      have HP : Hid (Part .i64 wr w.heap.size 2 len m zs) := hp
      have HB : Hid (Below w.heap.size w wr) := hb
      clear hp hb hcm
      go_wp2
      go_roundw
      case rel => exact ⟨m + 1, by omega, by go_num, part_step HP.out hlt, HB.out.setCell (Nat.le_refl _) _⟩
      case measure => simp [intOf]; omega
    · obtain rfl : m = len := by omega
      have HP : Hid (Part .i64 wr w.heap.size 2 m m zs) := hp
      have HB : Hid (Below w.heap.size w wr) := hb
      clear hp hb
      go_wp2
      go_ret
      exact ⟨rfl, HP.out, HB.out⟩
end Go.Proofs.Qxb6605174aMods.Script
