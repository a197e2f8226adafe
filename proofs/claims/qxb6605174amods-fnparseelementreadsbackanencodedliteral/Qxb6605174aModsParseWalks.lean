/- The walks of parseElement, a contract a kind of tag. -/
import Derived.Test.Qxb6605174aModsRows
import Derived.WalkKit
import Derived.WalkSpells
namespace Go.Proofs.Qxb6605174aMods.Parse
open Go.RowKit

theorem mask8 (a : Int) (h0 : 0 ≤ a) (h1 : a ≤ 4294967295) : bits .and .u64 a 255 = a % 256 := by
  rw [u64_and a 255 h0 (by omega) (by omega) (by omega)]
  show ((a.toNat &&& 255 : Nat) : Int) = _
  rw [nat_mask8]; omega
theorem mask16 (a : Int) (h0 : 0 ≤ a) (h1 : a ≤ 4294967295) : bits .and .u64 a 65535 = a % 65536 := by
  rw [u64_and a 65535 h0 (by omega) (by omega) (by omega)]
  show ((a.toNat &&& 65535 : Nat) : Int) = _
  rw [nat_mask16]; omega
theorem mask24 (a : Int) (h0 : 0 ≤ a) (h1 : a ≤ 4294967295) : bits .and .u64 a 16777215 = a % 16777216 := by
  rw [u64_and a 16777215 h0 (by omega) (by omega) (by omega)]
  show ((a.toNat &&& 16777215 : Nat) : Int) = _
  rw [nat_mask24]; omega
theorem mask32 (a : Int) (h0 : 0 ≤ a) (h1 : a ≤ 4294967295) : bits .and .u64 a 4294967295 = a := by
  rw [u64_and a 4294967295 h0 (by omega) (by omega) (by omega)]
  show ((a.toNat &&& 4294967295 : Nat) : Int) = _
  rw [nat_mask32]; omega
theorem low8 (a : Int) (h0 : 0 ≤ a) (h1 : a ≤ 4294967295) : bits .and .u32 a 255 = a % 256 := by
  rw [u32_and a 255 h0 (by omega) (by omega) (by omega)]
  show ((a.toNat &&& 255 : Nat) : Int) = _
  rw [nat_mask8]; omega
theorem low16 (a : Int) (h0 : 0 ≤ a) (h1 : a ≤ 4294967295) : bits .and .u32 a 65535 = a % 65536 := by
  rw [u32_and a 65535 h0 (by omega) (by omega) (by omega)]
  show ((a.toNat &&& 65535 : Nat) : Int) = _
  rw [nat_mask16]; omega
theorem low2 (t : Int) (h0 : 0 ≤ t) (h1 : t ≤ 255) : bits .and .u8 t 3 = t % 4 := by
  rw [u8_and t 3 h0 (by omega) (by omega) (by omega)]
  show ((t.toNat &&& 3 : Nat) : Int) = _
  rw [nat_mask2]; omega
theorem low3 (x : Int) (h0 : 0 ≤ x) (h1 : x ≤ 63) : bits .and .u64 x 7 = x % 8 := by
  rw [u64_and x 7 h0 (by omega) (by omega) (by omega)]
  show ((x.toNat &&& 7 : Nat) : Int) = _
  rw [nat_mask3]; omega
/-- Two numbers whose bits do not meet. -/
theorem join8 (x y : Int) (h0 : 0 ≤ x) (h1 : x ≤ 7) (h2 : 0 ≤ y) (h3 : y ≤ 255) : bits .or .u64 (x * 256) y = x * 256 + y := by
  rw [u64_or _ _ (by omega) (by omega) h2 (by omega), nat_join 8 _ _ (by omega) (by omega)]
  omega

set_option maxHeartbeats 400000 in
theorem short (t a : Int) (h0 : 0 ≤ t) (h1 : t < 240) (w : World) (ht : t % 4 = 0) :
    Calls Trym.prog 13 #[.int .u8 t, .int .u32 a] w fun e w' => e = .returned (.tuple #[.int .u64 (t / 4 + 1), .int .u64 0, .int .i64 1]) ∧ w' = w := by
  have e2 : (bits .and .u8 t 3 == 0) = true := by rw [low2 t h0 (by omega), ht]; rfl
  clear ht
  go_enter Trym.func13, Trym.ntmps13
  go_wp2
  go_ret3
  exact ⟨rfl, rfl⟩

set_option maxHeartbeats 400000 in
theorem copy1 (t a : Int) (h0 : 0 ≤ t) (h1 : t ≤ 255) (a0 : 0 ≤ a) (a1 : a ≤ 4294967295) (w : World) (ht : t % 4 = 1) :
    Calls Trym.prog 13 #[.int .u8 t, .int .u32 a] w fun e w' => e = .returned (.tuple #[.int .u64 (t / 4 % 8 + 4), .int .u64 (t / 4 / 8 * 256 + a % 256), .int .i64 2]) ∧ w' = w := by
  have e2 : (bits .and .u8 t 3 == 0) = false := by rw [low2 t h0 (by omega), ht]; rfl
  have e3 : (bits .and .u8 t 3 == 1) = true := by rw [low2 t h0 (by omega), ht]; rfl
  have e4 : bits .and .u64 (t / 4) 7 = t / 4 % 8 := low3 _ (by omega) (by omega)
  have e5 := low8 a a0 a1
  have e6 := join8 (t / 4 / 8) (a % 256) (by omega) (by omega) (by omega) (by omega)
  clear ht
  go_enter Trym.func13, Trym.ntmps13
  go_wp2
  go_ret3
  exact ⟨rfl, rfl⟩

set_option maxHeartbeats 400000 in
theorem copy2 (t a : Int) (h0 : 0 ≤ t) (h1 : t ≤ 255) (a0 : 0 ≤ a) (a1 : a ≤ 4294967295) (w : World) (ht : t % 4 = 2) :
    Calls Trym.prog 13 #[.int .u8 t, .int .u32 a] w fun e w' => e = .returned (.tuple #[.int .u64 (t / 4 + 1), .int .u64 (a % 65536), .int .i64 3]) ∧ w' = w := by
  have e2 : (bits .and .u8 t 3 == 0) = false := by rw [low2 t h0 (by omega), ht]; rfl
  have e3 : (bits .and .u8 t 3 == 1) = false := by rw [low2 t h0 (by omega), ht]; rfl
  have e4 : (bits .and .u8 t 3 == 2) = true := by rw [low2 t h0 (by omega), ht]; rfl
  have e5 := low16 a a0 a1
  clear ht
  go_enter Trym.func13, Trym.ntmps13
  go_wp2
  go_ret3
  exact ⟨rfl, rfl⟩

set_option maxHeartbeats 400000 in
theorem copy4 (t a : Int) (h0 : 0 ≤ t) (h1 : t ≤ 255) (_a0 : 0 ≤ a) (_a1 : a ≤ 4294967295) (w : World) (ht : t % 4 = 3) :
    Calls Trym.prog 13 #[.int .u8 t, .int .u32 a] w fun e w' => e = .returned (.tuple #[.int .u64 (t / 4 + 1), .int .u64 a, .int .i64 5]) ∧ w' = w := by
  have e2 : (bits .and .u8 t 3 == 0) = false := by rw [low2 t h0 (by omega), ht]; rfl
  have e3 : (bits .and .u8 t 3 == 1) = false := by rw [low2 t h0 (by omega), ht]; rfl
  have e4 : (bits .and .u8 t 3 == 2) = false := by rw [low2 t h0 (by omega), ht]; rfl
  clear ht
  go_enter Trym.func13, Trym.ntmps13
  go_wp2
  go_ret3
  exact ⟨rfl, rfl⟩

set_option maxHeartbeats 400000 in
theorem long1 (a : Int) (a0 : 0 ≤ a) (a1 : a ≤ 4294967295) (w : World) :
    Calls Trym.prog 13 #[.int .u8 240, .int .u32 a] w fun e w' => e = .returned (.tuple #[.int .u64 (a % 256 + 1), .int .u64 0, .int .i64 2]) ∧ w' = w := by
  have e2 : bits .and .u8 240 3 = 0 := by rw [low2 _ (by omega) (by omega)]; rfl
  have e5 := mask8 a a0 a1
  go_enter Trym.func13, Trym.ntmps13
  go_wp2
  go_ret3
  exact ⟨rfl, rfl⟩

set_option maxHeartbeats 400000 in
theorem long2 (a : Int) (a0 : 0 ≤ a) (a1 : a ≤ 4294967295) (w : World) :
    Calls Trym.prog 13 #[.int .u8 244, .int .u32 a] w fun e w' => e = .returned (.tuple #[.int .u64 (a % 65536 + 1), .int .u64 0, .int .i64 3]) ∧ w' = w := by
  have e2 : bits .and .u8 244 3 = 0 := by rw [low2 _ (by omega) (by omega)]; rfl
  have e5 := mask16 a a0 a1
  go_enter Trym.func13, Trym.ntmps13
  go_wp2
  go_ret3
  exact ⟨rfl, rfl⟩

set_option maxHeartbeats 400000 in
theorem long3 (a : Int) (a0 : 0 ≤ a) (a1 : a ≤ 4294967295) (w : World) :
    Calls Trym.prog 13 #[.int .u8 248, .int .u32 a] w fun e w' => e = .returned (.tuple #[.int .u64 (a % 16777216 + 1), .int .u64 0, .int .i64 4]) ∧ w' = w := by
  have e2 : bits .and .u8 248 3 = 0 := by rw [low2 _ (by omega) (by omega)]; rfl
  have e5 := mask24 a a0 a1
  go_enter Trym.func13, Trym.ntmps13
  go_wp2
  go_ret3
  exact ⟨rfl, rfl⟩

set_option maxHeartbeats 400000 in
theorem long4 (a : Int) (a0 : 0 ≤ a) (a1 : a ≤ 4294967295) (w : World) :
    Calls Trym.prog 13 #[.int .u8 252, .int .u32 a] w fun e w' => e = .returned (.tuple #[.int .u64 (a + 1), .int .u64 0, .int .i64 5]) ∧ w' = w := by
  have e2 : bits .and .u8 252 3 = 0 := by rw [low2 _ (by omega) (by omega)]; rfl
  have e5 := mask32 a a0 a1
  go_enter Trym.func13, Trym.ntmps13
  go_wp2
  go_ret3
  exact ⟨rfl, rfl⟩

/-- The thin shim hands on what parseElement answers. -/
theorem shim (t a L O N : Int) (w : World)
    (h : Calls Trym.prog 13 #[.int .u8 t, .int .u32 a] w fun e w' => e = .returned (.tuple #[.int .u64 L, .int .u64 O, .int .i64 N]) ∧ w' = w) :
    Calls Trym.prog 7 #[.int .u8 t, .int .u32 a] w fun e w' => e = .returned (.tuple #[.int .u64 L, .int .u64 O, .int .i64 N]) ∧ w' = w := by
  have H : Hid (Calls Trym.prog 13 #[.int .u8 t, .int .u32 a] w fun e w' => e = .returned (.tuple #[.int .u64 L, .int .u64 O, .int .i64 N]) ∧ w' = w) := h
  clear h
  go_enter Trym.func7, Trym.ntmps7
  go_wp2_with (go_at_call 13; refine H.out.mono ?_; rintro e w' ⟨rfl, rfl⟩)
  go_ret3
  exact ⟨rfl, rfl⟩
end Go.Proofs.Qxb6605174aMods.Parse
