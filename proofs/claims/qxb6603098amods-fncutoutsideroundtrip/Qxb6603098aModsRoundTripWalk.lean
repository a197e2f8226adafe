/- The walk of the law FnCutOutsideRoundTrip. -/
import Derived.Test.Qxb6603098aModsOutsideWalks
namespace Go.Proofs.Qxb6603098aMods.fnCutOutsideRoundTrip
open Go.RowKit
open Brace Plain Cut

/-- cutOutside, the place of the cut known. -/
theorem zz_none (s : ByteArray) (c : UInt8) (w : World) (hs : s.size ≤ maxLen) (h : cut s c = none) :
    Calls Trym.prog 12 #[.string s, .int .u8 (c.toNat : Int)] w fun e w' => e = .returned (.tuple #[.string s, .string ⟨#[]⟩]) ∧ ∃ n, w' = w.drewN n := by
  have := zzoutside_any s c w hs
  rw [h] at this
  exact this
theorem zz_some (s : ByteArray) (c : UInt8) (w : World) (hs : s.size ≤ maxLen) (k : Nat) (h : cut s c = some k) :
    Calls Trym.prog 12 #[.string s, .int .u8 (c.toNat : Int)] w fun e w' => e = .returned (.tuple #[.string (s.extract 0 k), .string (s.extract (k + 1) s.size)]) ∧ ∃ n, w' = w.drewN n := by
  have := zzoutside_any s c w hs
  rw [h] at this
  exact this

set_option maxHeartbeats 400000 in
theorem walk_none (a0 : ByteArray) (c : UInt8) (a2 : ByteArray) (w : World) (hz : a0.size + a2.size ≤ 1048576) (H : Hid (cut a0 c = none)) :
    Calls Trym.prog 6 #[.string a0, .int .u8 (c.toNat : Int), .string a2] w fun e w' => e = .returned (.bool true) ∧ Grown w w' := by
  have hs : a0.size ≤ maxLen := by unfold maxLen; omega
  go_enter Trym.func6, Trym.ntmps6
  go_wp2_with (first
    | (go_at_call 12; refine (zz_none a0 c _ hs H.out).mono ?_; rintro e w' ⟨rfl, n, rfl⟩)
    | (go_at_call 14; go_in))
  go_ret
  exact ⟨rfl, Grown.refl _⟩

theorem app_data (a b : ByteArray) : (a ++ b).data.toList = a.data.toList ++ b.data.toList := by simp
theorem ba_ext {a b : ByteArray} (h : a.data.toList = b.data.toList) : a = b := by
  obtain ⟨⟨x⟩⟩ := a; obtain ⟨⟨y⟩⟩ := b; simp only at h; rw [h]

theorem zz_last (a0 : ByteArray) (c : UInt8) (a2 : ByteArray) (k : Nat) (x : Int) (hk : k < a0.size) (hz : a0.size + a2.size ≤ 1048576)
    (hx : x = (c.toNat : Int)) (h : cut (a0.extract 0 (k + 1) ++ a2) c = some k) (w : World) :
    Calls Trym.prog 12 #[.string (a0.extract 0 (k + 1) ++ a2), .int .u8 x] w fun e w' => e = .returned (.tuple #[.string (a0.extract 0 k), .string a2]) ∧ ∃ n, w' = w.drewN n := by
  subst hx
  have hl : a0.data.toList.length = a0.size := (size_len a0).symm
  have hsz : (a0.extract 0 (k + 1) ++ a2).size = k + 1 + a2.size := by rw [ByteArray.size_append, ByteArray.size_extract]; omega
  have e1 : (a0.extract 0 (k + 1) ++ a2).extract 0 k = a0.extract 0 k := by
    apply ba_ext
    rw [ext_data, app_data, ext_data, ext_data]
    simp only [List.drop_zero, Nat.sub_zero]
    rw [List.take_append_of_le_length (by rw [List.length_take]; omega), List.take_take, Nat.min_eq_left (by omega)]
  have e2 : (a0.extract 0 (k + 1) ++ a2).extract (k + 1) (a0.extract 0 (k + 1) ++ a2).size = a2 := by
    apply ba_ext
    rw [ext_end, app_data, ext_data]
    simp only [List.drop_zero, Nat.sub_zero]
    rw [List.drop_append_of_le_length (by rw [List.length_take]; omega), List.drop_of_length_le (by rw [List.length_take]; omega), List.nil_append]
  have := zz_some _ c w (by unfold maxLen; omega) k h
  rw [e1, e2] at this
  exact this

set_option maxHeartbeats 1000000 in
theorem walk_some (a0 : ByteArray) (c : UInt8) (a2 : ByteArray) (w : World) (hz : a0.size + a2.size ≤ 1048576) (k : Nat) (hk : k < a0.size)
    (H : Hid (cut a0 c = some k)) (hb : ((a0[k].toNat : Int) == (c.toNat : Int)) = true) (H0 : Hid (cut (a0.extract 0 k) c = none))
    (HT : Hid (¬ (c = 36 ∧ (a2.data.toList.drop 0).head? = some 123) → cut (a0.extract 0 (k + 1) ++ a2) c = some k)) :
    Calls Trym.prog 6 #[.string a0, .int .u8 (c.toNat : Int), .string a2] w fun e w' => e = .returned (.bool true) ∧ Grown w w' := by
  have hs : a0.size ≤ maxLen := by unfold maxLen; omega
  have hsb : (a0.extract 0 k).size = k := by rw [ByteArray.size_extract]; omega
  have hsa : (a0.extract (k + 1) a0.size).size = a0.size - (k + 1) := by rw [ByteArray.size_extract]; omega
  have hs0 : (a0.extract 0 k).size ≤ maxLen := by unfold maxLen; omega
  have hne : ((k : Int) + 1 + ((a0.size - (k + 1) : Nat) : Int) != (a0.size : Int)) = false := by
    rw [bne_eq_false_iff_eq]; omega
  go_enter Trym.func6, Trym.ntmps6
  go_wp2_with (first | (go_at_call 14; go_in))
  refine (zz_some a0 c _ hs k H.out).mono ?_
  rintro e w' ⟨rfl, n, rfl⟩
  go_wp2_with fail
  · refine (zz_none (a0.extract 0 k) c _ hs0 H0.out).mono ?_
    rintro e w' ⟨rfl, m, rfl⟩
    go_wp2_with fail
    · go_ret
      exact ⟨rfl, Grown.refl _⟩
    · have h1 : ((a2[0].toNat : Int) == 123) = false := by assumption
      refine (zz_last a0 c a2 k 36 hk hz ‹(c.toNat : Int) = 36›.symm (HT.out ?_) _).mono ?_
      · rintro ⟨_, e⟩
        obtain ⟨_, e⟩ := (head_iff a2 0).1 e
        rw [e] at h1; exact absurd h1 (by decide)
      rintro e w' ⟨rfl, l, rfl⟩
      go_wp2_with fail
      go_ret
      exact ⟨rfl, Grown.refl _⟩
    · have h1 : ¬ 0 < a2.size := by assumption
      refine (zz_last a0 c a2 k 36 hk hz ‹(c.toNat : Int) = 36›.symm (HT.out ?_) _).mono ?_
      · rintro ⟨_, e⟩
        obtain ⟨e, _⟩ := (head_iff a2 0).1 e
        exact h1 e
      rintro e w' ⟨rfl, l, rfl⟩
      go_wp2_with fail
      go_ret
      exact ⟨rfl, Grown.refl _⟩
    · have h1 : ¬ (c.toNat : Int) = 36 := by assumption
      refine (zz_last a0 c a2 k (c.toNat : Int) hk hz rfl (HT.out ?_) _).mono ?_
      · rintro ⟨e, _⟩
        exact h1 ((is36 c).1 e)
      rintro e w' ⟨rfl, l, rfl⟩
      go_wp2_with fail
      go_ret
      exact ⟨rfl, Grown.refl _⟩
  · exact absurd (by simpa using hb) (‹¬ (a0[k].toNat : Int) = (c.toNat : Int)›)

theorem walk (a0 : ByteArray) (a1 : Int) (a2 : ByteArray) (w0 : a0.size ≤ maxLen) (w1 : (Lit.int .u8 a1).wf = true) (w2 : a2.size ≤ maxLen) (w : World) :
    Calls Trym.prog 6 #[.string a0, .int .u8 a1, .string a2] w fun e w' => e = .returned (.bool true) ∧ Grown w w' := by
  unfold maxLen at w0 w2
  obtain ⟨c, rfl⟩ := byte_of a1 w1
  clear w1
  by_cases hz : a0.size + a2.size ≤ 1048576
  · rcases hc : cut a0 c with _ | k
    · exact walk_none a0 c a2 w hz hc
    · obtain ⟨j, hj, hlt, hb, hn, _, h0, hu⟩ := am_some c a0.data.toList 0 0 0 k hc
      obtain rfl : k = j := by omega
      have hlt' : k < a0.size := by rw [size_len]; exact hlt
      refine walk_some a0 c a2 w hz k hlt' hc ?_ ?_ ?_
      · rw [List.getElem?_eq_getElem hlt] at hb
        have e : a0[k] = c := Option.some.inj hb
        rw [e]; simp
      · show am c 0 (a0.extract 0 k).data.toList 0 0 = none
        rw [ext_data]; exact h0
      · intro hneg
        show am c 0 (a0.extract 0 (k + 1) ++ a2).data.toList 0 0 = some k
        rw [app_data, ext_data]
        exact hu _ hneg
  · by_cases h0 : a0.size ≤ 1048576
    · by_cases h1 : a2.size ≤ 1048576
      all_goals
        go_enter Trym.func6, Trym.ntmps6
        go_wp2_with (first | (go_at_call 14; go_in))
        go_ret
        exact ⟨rfl, Grown.refl _⟩
    · go_enter Trym.func6, Trym.ntmps6
      go_wp2_with (first | (go_at_call 14; go_in))
      go_ret
      exact ⟨rfl, Grown.refl _⟩
end Go.Proofs.Qxb6603098aMods.fnCutOutsideRoundTrip
