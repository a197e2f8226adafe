/- The walk of the law FnClosingBraceDecidedByPrefix. -/
import Derived.Test.Qxb6603098aModsBraceWalks
namespace Go.Proofs.Qxb6603098aMods.fnClosingBraceDecidedByPrefix
open Go.RowKit
open Brace Plain

theorem zz_at (s : ByteArray) (v : Int) (h : fb 0 s.data.toList 0 0 = v) (hs : s.size ≤ maxLen) (w : World) :
    Calls Trym.prog 8 #[.string s] w fun e w' => e = .returned (.int .i64 v) ∧ w' = w := by
  rw [← h]; exact zzclose_any s w hs

theorem app_data (a b : ByteArray) : (a ++ b).data.toList = a.data.toList ++ b.data.toList := by simp

set_option maxHeartbeats 400000 in
theorem walk_not (a0 : ByteArray) (a1 : ByteArray) (w : World) (v : Int)
    (hz : a0.size + a1.size ≤ 1048576) (H : Hid (fb 0 a0.data.toList 0 0 = -1)) (HU : Hid (fb 0 (a0 ++ a1).data.toList 0 0 = v)) (hv : v = -1 ∨ (a0.size : Int) ≤ v) :
    Calls Trym.prog 4 #[.string a0, .string a1] w fun e w' => e = .returned (.bool true) ∧ Grown w w' := by
  have hsz : (a0 ++ a1).size ≤ maxLen := by unfold maxLen; rw [ByteArray.size_append]; omega
  rcases hv with hv | hv
  · have hv' : (v == -1) = true := by simpa using hv
    clear hv
    go_enter Trym.func4, Trym.ntmps4
    go_wp2_with (first | (go_at_call 10; go_in))
    refine (zz_at a0 (-1) H.out (by unfold maxLen; omega) _).mono ?_
    rintro e w' ⟨rfl, rfl⟩
    go_wp2_with fail
    refine (zz_at (a0 ++ a1) v HU.out hsz _).mono ?_
    rintro e w' ⟨rfl, rfl⟩
    go_wp2_with fail
    go_ret
    exact ⟨rfl, Grown.refl _⟩
  · have hv' : (v == -1) = false := by simp; omega
    go_enter Trym.func4, Trym.ntmps4
    go_wp2_with (first | (go_at_call 10; go_in))
    refine (zz_at a0 (-1) H.out (by unfold maxLen; omega) _).mono ?_
    rintro e w' ⟨rfl, rfl⟩
    go_wp2_with fail
    refine (zz_at (a0 ++ a1) v HU.out hsz _).mono ?_
    rintro e w' ⟨rfl, rfl⟩
    go_wp2_with fail
    go_ret
    exact ⟨by simp, Grown.refl _⟩

set_option maxHeartbeats 400000 in
theorem walk_hit (a0 : ByteArray) (a1 : ByteArray) (w : World) (k : Nat) (hk : k < a0.size)
    (hz : a0.size + a1.size ≤ 1048576) (H : Hid (fb 0 a0.data.toList 0 0 = k)) (HU : Hid (fb 0 (a0 ++ a1).data.toList 0 0 = k))
    (HT : Hid (fb 0 (a0.extract 0 (k + 1)).data.toList 0 0 = k)) (hb : ((a0[k].toNat : Int) == 125) = true) :
    Calls Trym.prog 4 #[.string a0, .string a1] w fun e w' => e = .returned (.bool true) ∧ Grown w w' := by
  have hsz : (a0 ++ a1).size ≤ maxLen := by unfold maxLen; rw [ByteArray.size_append]; omega
  have hst : (a0.extract 0 (k + 1)).size ≤ maxLen := by unfold maxLen; rw [ByteArray.size_extract]; omega
  go_enter Trym.func4, Trym.ntmps4
  go_wp2_with (first | (go_at_call 10; go_in))
  refine (zz_at a0 k H.out (by unfold maxLen; omega) _).mono ?_
  rintro e w' ⟨rfl, rfl⟩
  go_wp2_with fail
  refine (zz_at (a0 ++ a1) k HU.out hsz _).mono ?_
  rintro e w' ⟨rfl, rfl⟩
  go_wp2_with fail
  refine (zz_at (a0.extract 0 (k + 1)) k HT.out hst _).mono ?_
  rintro e w' ⟨rfl, rfl⟩
  go_wp2_with fail
  go_ret
  exact ⟨rfl, Grown.refl _⟩

theorem walk (a0 : ByteArray) (a1 : ByteArray) (w0 : a0.size ≤ maxLen) (w1 : a1.size ≤ maxLen) (w : World) :
    Calls Trym.prog 4 #[.string a0, .string a1] w fun e w' => e = .returned (.bool true) ∧ Grown w w' := by
  unfold maxLen at w0 w1
  by_cases hz : a0.size + a1.size ≤ 1048576
  · rcases fb_range a0.data.toList 0 0 0 with h | ⟨k, hk, h, hb⟩
    · refine walk_not a0 a1 w _ hz h rfl ?_
      rw [app_data, size_len]
      rcases (fb_append a0.data.toList a1.data.toList 0 0 0).2 h with h' | h'
      · exact Or.inl h'
      · exact Or.inr (by omega)
    · rw [← size_len] at hk
      have h0 : fb 0 a0.data.toList 0 0 = (k : Int) := by rw [h]; omega
      refine walk_hit a0 a1 w k hk hz h0 ?_ ?_ ?_
      · rw [app_data, (fb_append a0.data.toList a1.data.toList 0 0 0).1 (by omega)]; exact h0
      · rw [ext_data, List.drop_zero]
        have := fb_take a0.data.toList 0 0 0 k h
        simp only [Nat.sub_zero]
        rw [Hid, this]; omega
      · rw [List.getElem?_eq_getElem (by rw [← size_len]; exact hk)] at hb
        have e : a0[k] = 125 := Option.some.inj hb
        rw [e]; rfl
  · by_cases h0 : a0.size ≤ 1048576
    · by_cases h1 : a1.size ≤ 1048576
      all_goals
        go_enter Trym.func4, Trym.ntmps4
        go_wp2_with (first | (go_at_call 10; go_in))
        go_ret
        exact ⟨rfl, Grown.refl _⟩
    · go_enter Trym.func4, Trym.ntmps4
      go_wp2_with (first | (go_at_call 10; go_in))
      go_ret
      exact ⟨rfl, Grown.refl _⟩
end Go.Proofs.Qxb6603098aMods.fnClosingBraceDecidedByPrefix
