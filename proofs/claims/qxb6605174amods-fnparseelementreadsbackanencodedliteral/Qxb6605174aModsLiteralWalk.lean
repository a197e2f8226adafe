/- The walk of the law FnParseElementReadsBackAnEncodedLiteral. -/
import Derived.Test.Qxb6605174aModsParseWalks
import Derived.OpenShut
import Derived.LoopN
namespace Go.Proofs.Qxb6605174aMods.fnParseElementReadsBackAnEncodedLiteral
open Go.RowKit
open Parse

theorem read0 (t a L : Int) (w : World) (h0 : 0 ≤ t) (h1 : t < 240) (ht : t % 4 = 0) (hL : t / 4 + 1 = L) :
    Calls Trym.prog 7 #[.int .u8 t, .int .u32 a] w fun e w' => e = .returned (.tuple #[.int .u64 L, .int .u64 0, .int .i64 1]) ∧ w' = w := by
  rw [← hL]; exact shim _ _ _ _ _ w (short t a h0 h1 w ht)
theorem read1 (a L : Int) (w : World) (a0 : 0 ≤ a) (a1 : a ≤ 4294967295) (hL : a % 256 + 1 = L) :
    Calls Trym.prog 7 #[.int .u8 240, .int .u32 a] w fun e w' => e = .returned (.tuple #[.int .u64 L, .int .u64 0, .int .i64 2]) ∧ w' = w := by
  rw [← hL]; exact shim _ _ _ _ _ w (long1 a a0 a1 w)
theorem or1 (v x : Int) (h0 : 0 ≤ v) (h1 : v < 256) : bits .or .u32 v (x * 256 % 4294967296) = x * 256 % 4294967296 + v := by
  rw [u32_or _ _ h0 (by omega) (by omega) (by omega), Nat.or_comm, nat_join 8 _ _ (by omega) (by omega)]
  omega
theorem read2 (a L : Int) (w : World) (a0 : 0 ≤ a) (a1 : a ≤ 4294967295) (hL : a % 65536 + 1 = L) :
    Calls Trym.prog 7 #[.int .u8 244, .int .u32 a] w fun e w' => e = .returned (.tuple #[.int .u64 L, .int .u64 0, .int .i64 3]) ∧ w' = w := by
  rw [← hL]; exact shim _ _ _ _ _ w (long2 a a0 a1 w)
theorem or2 (v x : Int) (h0 : 0 ≤ v) (h1 : v < 65536) : bits .or .u32 v (x * 65536 % 4294967296) = x * 65536 % 4294967296 + v := by
  rw [u32_or _ _ h0 (by omega) (by omega) (by omega), Nat.or_comm, nat_join 16 _ _ (by omega) (by omega)]
  omega
theorem read3 (a L : Int) (w : World) (a0 : 0 ≤ a) (a1 : a ≤ 4294967295) (hL : a % 16777216 + 1 = L) :
    Calls Trym.prog 7 #[.int .u8 248, .int .u32 a] w fun e w' => e = .returned (.tuple #[.int .u64 L, .int .u64 0, .int .i64 4]) ∧ w' = w := by
  rw [← hL]; exact shim _ _ _ _ _ w (long3 a a0 a1 w)
theorem or3 (v x : Int) (h0 : 0 ≤ v) (h1 : v < 16777216) : bits .or .u32 v (x * 16777216 % 4294967296) = x * 16777216 % 4294967296 + v := by
  rw [u32_or _ _ h0 (by omega) (by omega) (by omega), Nat.or_comm, nat_join 24 _ _ (by omega) (by omega)]
  omega
theorem read4 (a L : Int) (w : World) (a0 : 0 ≤ a) (a1 : a ≤ 4294967295) (hL : a + 1 = L) :
    Calls Trym.prog 7 #[.int .u8 252, .int .u32 a] w fun e w' => e = .returned (.tuple #[.int .u64 L, .int .u64 0, .int .i64 5]) ∧ w' = w := by
  rw [← hL]; exact shim _ _ _ _ _ w (long4 a a0 a1 w)
theorem or4 (v : Int) (h0 : 0 ≤ v) (h1 : v < 4294967296) : bits .or .u32 v 0 = v := by
  rw [u32_or _ _ h0 (by omega) (by omega) (by omega)]
  show ((v.toNat ||| 0 : Nat) : Int) = _
  rw [Nat.or_zero]; omega

set_option maxHeartbeats 1000000 in
theorem walk1 (a0 : Int) (a1 : Int) (b0' : a0 ≤ 4294967295) (w : World) (hk : 60 ≤ a0 - 1) (hk' : a0 - 1 < 256) :
    Calls Trym.prog 3 #[.int .u32 a0, .int .u32 a1] w fun e w' => e = .returned (.bool true) ∧ Grown w w' := by
  have hne : (a0 == 0) = false := by simp; omega
  have ho := or1 (a0 - 1) a1 (by omega) hk'
  go_enter Trym.func3, Trym.ntmps3
  go_wp2_with fail
  refine wp_loop_rounds 1 ?_
  rw [rounds_succ]
  go_wp2_with fail
  refine (read1 _ a0 _ (by omega) (by omega) (by omega)).mono ?_
  rintro e w' ⟨rfl, rfl⟩
  go_wp2_with fail
  go_ret
  exact ⟨rfl, Grown.refl _⟩

set_option maxHeartbeats 1000000 in
theorem walk2 (a0 : Int) (a1 : Int) (b0' : a0 ≤ 4294967295) (w : World) (hk : 256 ≤ a0 - 1) (hk' : a0 - 1 < 65536) :
    Calls Trym.prog 3 #[.int .u32 a0, .int .u32 a1] w fun e w' => e = .returned (.bool true) ∧ Grown w w' := by
  have hne : (a0 == 0) = false := by simp; omega
  have ho := or2 (a0 - 1) a1 (by omega) hk'
  go_enter Trym.func3, Trym.ntmps3
  go_wp2_with fail
  refine wp_loop_rounds 2 ?_
  rw [rounds_succ]
  go_wp2_with fail
  rw [rounds_succ]
  go_wp2_with fail
  refine (read2 _ a0 _ (by omega) (by omega) (by omega)).mono ?_
  rintro e w' ⟨rfl, rfl⟩
  go_wp2_with fail
  go_ret
  exact ⟨rfl, Grown.refl _⟩

set_option maxHeartbeats 1000000 in
theorem walk3 (a0 : Int) (a1 : Int) (b0' : a0 ≤ 4294967295) (w : World) (hk : 65536 ≤ a0 - 1) (hk' : a0 - 1 < 16777216) :
    Calls Trym.prog 3 #[.int .u32 a0, .int .u32 a1] w fun e w' => e = .returned (.bool true) ∧ Grown w w' := by
  have hne : (a0 == 0) = false := by simp; omega
  have ho := or3 (a0 - 1) a1 (by omega) hk'
  go_enter Trym.func3, Trym.ntmps3
  go_wp2_with fail
  refine wp_loop_rounds 3 ?_
  rw [rounds_succ]
  go_wp2_with fail
  rw [rounds_succ]
  go_wp2_with fail
  rw [rounds_succ]
  go_wp2_with fail
  refine (read3 _ a0 _ (by omega) (by omega) (by omega)).mono ?_
  rintro e w' ⟨rfl, rfl⟩
  go_wp2_with fail
  go_ret
  exact ⟨rfl, Grown.refl _⟩

set_option maxHeartbeats 1000000 in
theorem walk4 (a0 : Int) (a1 : Int) (b0' : a0 ≤ 4294967295) (w : World) (hk : 16777216 ≤ a0 - 1) (hk' : a0 - 1 < 4294967296) :
    Calls Trym.prog 3 #[.int .u32 a0, .int .u32 a1] w fun e w' => e = .returned (.bool true) ∧ Grown w w' := by
  have hne : (a0 == 0) = false := by simp; omega
  have ho := or4 (a0 - 1) (by omega) hk'
  go_enter Trym.func3, Trym.ntmps3
  go_wp2_with fail
  refine wp_loop_rounds 4 ?_
  rw [rounds_succ]
  go_wp2_with fail
  rw [rounds_succ]
  go_wp2_with fail
  rw [rounds_succ]
  go_wp2_with fail
  rw [rounds_succ]
  go_wp2_with fail
  refine (read4 _ a0 _ (by omega) (by omega) (by omega)).mono ?_
  rintro e w' ⟨rfl, rfl⟩
  go_wp2_with fail
  go_ret
  exact ⟨rfl, Grown.refl _⟩

set_option maxHeartbeats 400000 in
theorem walk0 (a0 : Int) (a1 : Int) (w : World) (hk : 1 ≤ a0) (hk' : a0 - 1 < 60) :
    Calls Trym.prog 3 #[.int .u32 a0, .int .u32 a1] w fun e w' => e = .returned (.bool true) ∧ Grown w w' := by
  have hne : (a0 == 0) = false := by simp; omega
  go_enter Trym.func3, Trym.ntmps3
  go_wp2_with fail
  refine (read0 _ _ a0 _ (by omega) (by omega) (by omega) (by omega)).mono ?_
  rintro e w' ⟨rfl, rfl⟩
  go_wp2_with fail
  go_ret
  exact ⟨rfl, Grown.refl _⟩

theorem walk (a0 : Int) (a1 : Int) (w0 : (Lit.int .u32 a0).wf = true) (w1 : (Lit.int .u32 a1).wf = true) (w : World) :
    Calls Trym.prog 3 #[.int .u32 a0, .int .u32 a1] w fun e w' => e = .returned (.bool true) ∧ Grown w w' := by
  have b0 : 0 ≤ a0 ∧ a0 ≤ 4294967295 := bounds_u32 w0
  have b1 : 0 ≤ a1 ∧ a1 ≤ 4294967295 := bounds_u32 w1
  by_cases h0 : a0 = 0
  · subst h0
    go_enter Trym.func3, Trym.ntmps3
    go_wp2
    go_ret
    exact ⟨rfl, Grown.refl _⟩
  by_cases h1 : a0 - 1 < 60
  · exact walk0 a0 a1 w (by omega) h1
  by_cases h2 : a0 - 1 < 256
  · exact walk1 a0 a1 b0.2 w (by omega) h2
  by_cases h3 : a0 - 1 < 65536
  · exact walk2 a0 a1 b0.2 w (by omega) h3
  by_cases h4 : a0 - 1 < 16777216
  · exact walk3 a0 a1 b0.2 w (by omega) h4
  · exact walk4 a0 a1 b0.2 w (by omega) (by omega)
end Go.Proofs.Qxb6605174aMods.fnParseElementReadsBackAnEncodedLiteral
