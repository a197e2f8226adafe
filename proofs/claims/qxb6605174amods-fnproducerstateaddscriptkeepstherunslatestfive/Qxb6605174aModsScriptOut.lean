/- The script law: the inputs that its own tests let by. -/
import Derived.Test.Qxb6605174aModsScriptBase
namespace Go.Proofs.Qxb6605174aMods.Script
open Go.RowKit

set_option maxRecDepth 100000 in
set_option maxHeartbeats 4000000 in
theorem out_sum (W : World) (a0 a1 a2 a3 a4 : Option Addr) (l0 c0 l1 c1 l2 c2 l3 c3 l4 c4 : Nat) (h : ¬ l0 + l1 + l2 + l3 + l4 ≤ 1048576)
    (h0 : l0 ≤ maxLen) (h1 : l1 ≤ maxLen) (h2 : l2 ≤ maxLen) (h3 : l3 ≤ maxLen) (h4 : l4 ≤ maxLen) :
    Calls Trym.prog 6 #[.slice a0 l0 c0, .slice a1 l1 c1, .slice a2 l2 c2, .slice a3 l3 c3, .slice a4 l4 c4] W fun e w' => e = .returned (.bool true) ∧ Below W.heap.size W w' := by
  have hno := bytes_no W a0 a1 a2 a3 a4 l0 c0 l1 c1 l2 c2 l3 c3 l4 c4 h h0 h1 h2 h3 h4
  have HNO : Hid (Calls Trym.prog 9 #[.slice a0 l0 c0, .slice a1 l1 c1, .slice a2 l2 c2, .slice a3 l3 c3, .slice a4 l4 c4] W fun e w' => e = .returned (.bool false) ∧ w' = W) := hno
  clear hno h0 h1 h2 h3 h4
  go_enter Trym.func6, Trym.ntmps6
  go_wp2_with fail
  refine HNO.out.mono ?_
  rintro e w' ⟨rfl, hw⟩
  rw [hw]
  go_wp2_with fail
  go_ret
  exact ⟨rfl, Below.refl _ _⟩

set_option maxRecDepth 100000 in
set_option maxHeartbeats 4000000 in
theorem out_len (W : World) (a0 a1 a2 a3 a4 : Option Addr) (l0 c0 l1 c1 l2 c2 l3 c3 l4 c4 : Nat) (h : l0 + l1 + l2 + l3 + l4 ≤ 1048576)
    (hm : 65536 < l0 ∨ 65536 < l1 ∨ 65536 < l2 ∨ 65536 < l3 ∨ 65536 < l4) :
    Calls Trym.prog 6 #[.slice a0 l0 c0, .slice a1 l1 c1, .slice a2 l2 c2, .slice a3 l3 c3, .slice a4 l4 c4] W fun e w' => e = .returned (.bool true) ∧ Below W.heap.size W w' := by
  have HY : Hid (Calls Trym.prog 9 #[.slice a0 l0 c0, .slice a1 l1 c1, .slice a2 l2 c2, .slice a3 l3 c3, .slice a4 l4 c4] W fun e w' => e = .returned (.bool true) ∧ w' = W) := bytes_yes W a0 a1 a2 a3 a4 l0 c0 l1 c1 l2 c2 l3 c3 l4 c4 h
  by_cases h0 : 65536 < l0
  · go_enter Trym.func6, Trym.ntmps6
    go_wp2_with fail
    refine HY.out.mono ?_
    rintro e w' ⟨rfl, hw⟩
    rw [hw]
    go_wp2_with fail
    go_ret
    exact ⟨rfl, Below.refl _ _⟩
  by_cases h1 : 65536 < l1
  · go_enter Trym.func6, Trym.ntmps6
    go_wp2_with fail
    refine HY.out.mono ?_
    rintro e w' ⟨rfl, hw⟩
    rw [hw]
    go_wp2_with fail
    go_ret
    exact ⟨rfl, Below.refl _ _⟩
  by_cases h2 : 65536 < l2
  · go_enter Trym.func6, Trym.ntmps6
    go_wp2_with fail
    refine HY.out.mono ?_
    rintro e w' ⟨rfl, hw⟩
    rw [hw]
    go_wp2_with fail
    go_ret
    exact ⟨rfl, Below.refl _ _⟩
  by_cases h3 : 65536 < l3
  · go_enter Trym.func6, Trym.ntmps6
    go_wp2_with fail
    refine HY.out.mono ?_
    rintro e w' ⟨rfl, hw⟩
    rw [hw]
    go_wp2_with fail
    go_ret
    exact ⟨rfl, Below.refl _ _⟩
  · have h4 : 65536 < l4 := by omega
    go_enter Trym.func6, Trym.ntmps6
    go_wp2_with fail
    refine HY.out.mono ?_
    rintro e w' ⟨rfl, hw⟩
    rw [hw]
    go_wp2_with fail
    go_ret
    exact ⟨rfl, Below.refl _ _⟩

set_option maxRecDepth 100000 in
set_option maxHeartbeats 4000000 in
theorem out_eight (W : World) (a0 a1 a2 a3 a4 : Option Addr) (l0 c0 l1 c1 l2 c2 l3 c3 l4 c4 : Nat)
    (m0 : l0 ≤ 65536) (m1 : l1 ≤ 65536) (m2 : l2 ≤ 65536) (m3 : l3 ≤ 65536) (m4 : l4 ≤ 65536) (m8 : ¬ 8 * (l0 + l1 + l2 + l3 + l4) ≤ 1048576) :
    Calls Trym.prog 6 #[.slice a0 l0 c0, .slice a1 l1 c1, .slice a2 l2 c2, .slice a3 l3 c3, .slice a4 l4 c4] W fun e w' => e = .returned (.bool true) ∧ Below W.heap.size W w' := by
  have HY : Hid (Calls Trym.prog 9 #[.slice a0 l0 c0, .slice a1 l1 c1, .slice a2 l2 c2, .slice a3 l3 c3, .slice a4 l4 c4] W fun e w' => e = .returned (.bool true) ∧ w' = W) := bytes_yes W a0 a1 a2 a3 a4 l0 c0 l1 c1 l2 c2 l3 c3 l4 c4 (by omega)
  go_enter Trym.func6, Trym.ntmps6
  go_wp2_with fail
  refine HY.out.mono ?_
  rintro e w' ⟨rfl, hw⟩
  rw [hw]
  go_wp2_with fail
  go_ret
  exact ⟨rfl, Below.refl _ _⟩
end Go.Proofs.Qxb6605174aMods.Script
