/- The walk of the law FnParseElementReadsBackAnEncodedCopy. -/
import Derived.Test.Qxb6605174aModsParseWalks
import Derived.OpenShut
namespace Go.Proofs.Qxb6605174aMods.fnParseElementReadsBackAnEncodedCopy
open Go.RowKit
open Parse

theorem read1 (t a L O : Int) (w : World) (h0 : 0 ≤ t) (h1 : t ≤ 255) (a0 : 0 ≤ a) (a1 : a ≤ 4294967295) (ht : t % 4 = 1) (hL : t / 4 % 8 + 4 = L) (hO : t / 4 / 8 * 256 + a % 256 = O) :
    Calls Trym.prog 7 #[.int .u8 t, .int .u32 a] w fun e w' => e = .returned (.tuple #[.int .u64 L, .int .u64 O, .int .i64 2]) ∧ w' = w := by
  rw [← hL, ← hO]; exact shim _ _ _ _ _ w (copy1 t a h0 h1 a0 a1 w ht)
theorem read2 (t a L O : Int) (w : World) (h0 : 0 ≤ t) (h1 : t ≤ 255) (a0 : 0 ≤ a) (a1 : a ≤ 4294967295) (ht : t % 4 = 2) (hL : t / 4 + 1 = L) (hO : a % 65536 = O) :
    Calls Trym.prog 7 #[.int .u8 t, .int .u32 a] w fun e w' => e = .returned (.tuple #[.int .u64 L, .int .u64 O, .int .i64 3]) ∧ w' = w := by
  rw [← hL, ← hO]; exact shim _ _ _ _ _ w (copy2 t a h0 h1 a0 a1 w ht)
theorem read4 (t a L : Int) (w : World) (h0 : 0 ≤ t) (h1 : t ≤ 255) (a0 : 0 ≤ a) (a1 : a ≤ 4294967295) (ht : t % 4 = 3) (hL : t / 4 + 1 = L) :
    Calls Trym.prog 7 #[.int .u8 t, .int .u32 a] w fun e w' => e = .returned (.tuple #[.int .u64 L, .int .u64 a, .int .i64 5]) ∧ w' = w := by
  rw [← hL]; exact shim _ _ _ _ _ w (copy4 t a h0 h1 a0 a1 w ht)

set_option maxHeartbeats 1000000 in
/-- The longer heads: two offset bytes, or four. -/
theorem walk_far (a0 : Int) (a1 : Int) (a2 : Int) (w : World) (b0l : 1 ≤ a0) (b0h : a0 ≤ 64) (b1l : 0 ≤ a1) (b1h : a1 ≤ 4294967295)
    (hno : a0 < 4 ∨ 11 < a0 ∨ 2048 ≤ a1) :
    Calls Trym.prog 4 #[.int .u32 a0, .int .u32 a1, .int .u32 a2] w fun e w' => e = .returned (.bool true) ∧ Grown w w' := by
  by_cases c6 : a1 < 65536
  · by_cases d1 : 4 ≤ a0
    · by_cases d2 : a0 ≤ 11
      · have d3 : ¬ a1 < 2048 := by omega
        clear hno
        go_enter Trym.func4, Trym.ntmps4
        go_wp2_with fail
        refine (read2 _ _ a0 a1 _ (by omega) (by omega) (by omega) (by omega) (by omega) (by omega) (by omega)).mono ?_
        rintro e w' ⟨rfl, rfl⟩
        go_wp2_with fail
        go_ret
        exact ⟨rfl, Grown.refl _⟩
      · clear hno
        go_enter Trym.func4, Trym.ntmps4
        go_wp2_with fail
        refine (read2 _ _ a0 a1 _ (by omega) (by omega) (by omega) (by omega) (by omega) (by omega) (by omega)).mono ?_
        rintro e w' ⟨rfl, rfl⟩
        go_wp2_with fail
        go_ret
        exact ⟨rfl, Grown.refl _⟩
    · clear hno
      go_enter Trym.func4, Trym.ntmps4
      go_wp2_with fail
      refine (read2 _ _ a0 a1 _ (by omega) (by omega) (by omega) (by omega) (by omega) (by omega) (by omega)).mono ?_
      rintro e w' ⟨rfl, rfl⟩
      go_wp2_with fail
      go_ret
      exact ⟨rfl, Grown.refl _⟩
  · by_cases d1 : 4 ≤ a0
    · by_cases d2 : a0 ≤ 11
      · have d3 : ¬ a1 < 2048 := by omega
        clear hno
        go_enter Trym.func4, Trym.ntmps4
        go_wp2_with fail
        refine (read4 _ _ a0 _ (by omega) (by omega) (by omega) (by omega) (by omega) (by omega)).mono ?_
        rintro e w' ⟨rfl, rfl⟩
        go_wp2_with fail
        go_ret
        exact ⟨rfl, Grown.refl _⟩
      · clear hno
        go_enter Trym.func4, Trym.ntmps4
        go_wp2_with fail
        refine (read4 _ _ a0 _ (by omega) (by omega) (by omega) (by omega) (by omega) (by omega)).mono ?_
        rintro e w' ⟨rfl, rfl⟩
        go_wp2_with fail
        go_ret
        exact ⟨rfl, Grown.refl _⟩
    · clear hno
      go_enter Trym.func4, Trym.ntmps4
      go_wp2_with fail
      refine (read4 _ _ a0 _ (by omega) (by omega) (by omega) (by omega) (by omega) (by omega)).mono ?_
      rintro e w' ⟨rfl, rfl⟩
      go_wp2_with fail
      go_ret
      exact ⟨rfl, Grown.refl _⟩

set_option maxHeartbeats 400000 in
theorem walk (a0 : Int) (a1 : Int) (a2 : Int) (w0 : (Lit.int .u32 a0).wf = true) (w1 : (Lit.int .u32 a1).wf = true) (w2 : (Lit.int .u32 a2).wf = true) (w : World) :
    Calls Trym.prog 4 #[.int .u32 a0, .int .u32 a1, .int .u32 a2] w fun e w' => e = .returned (.bool true) ∧ Grown w w' := by
  have b0 : 0 ≤ a0 ∧ a0 ≤ 4294967295 := bounds_u32 w0
  have b1 : 0 ≤ a1 ∧ a1 ≤ 4294967295 := bounds_u32 w1
  have b2 : 0 ≤ a2 ∧ a2 ≤ 4294967295 := bounds_u32 w2
  obtain ⟨b0l, b0h⟩ := b0
  obtain ⟨b1l, b1h⟩ := b1
  obtain ⟨b2l, b2h⟩ := b2
  clear w0 w1 w2
  by_cases c1 : a0 < 1
  · go_enter Trym.func4, Trym.ntmps4
    go_wp2
    go_ret
    exact ⟨rfl, Grown.refl _⟩
  by_cases c2 : 64 < a0
  · go_enter Trym.func4, Trym.ntmps4
    go_wp2
    go_ret
    exact ⟨rfl, Grown.refl _⟩
  by_cases c3 : (4 ≤ a0 ∧ a0 ≤ 11) ∧ a1 < 2048
  · obtain ⟨⟨c3, c4⟩, c5⟩ := c3
    go_enter Trym.func4, Trym.ntmps4
    go_wp2_with fail
    refine (read1 _ _ a0 a1 _ (by omega) (by omega) (by omega) (by omega) (by omega) (by omega) (by omega)).mono ?_
    rintro e w' ⟨rfl, rfl⟩
    go_wp2_with fail
    go_ret
    exact ⟨rfl, Grown.refl _⟩
  · exact walk_far a0 a1 a2 w (by omega) (by omega) b1l b1h (by omega)
end Go.Proofs.Qxb6605174aMods.fnParseElementReadsBackAnEncodedCopy
