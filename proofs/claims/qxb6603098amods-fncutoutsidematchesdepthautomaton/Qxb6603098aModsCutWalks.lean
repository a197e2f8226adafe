/- The walks of cutModel and cutOutside. -/
import Derived.Test.Qxb6603098aModsBraceWalks
import Derived.Deep.QuietTactic
import Derived.BigQuiet
namespace Go.Proofs.Qxb6603098aMods.Cut
open Go.RowKit
open Brace Plain

/-- What stands before the cut, and behind it. -/
def cutB (s : ByteArray) : Option Nat → ByteArray
  | none => s
  | some k => s.extract 0 k
def cutA (s : ByteArray) : Option Nat → ByteArray
  | none => ⟨#[]⟩
  | some k => s.extract (k + 1) s.size
/-- The place of the cut. -/
def cut (s : ByteArray) (c : UInt8) : Option Nat := am c 0 s.data.toList 0 0

theorem isC (x c : UInt8) : x = c ↔ (x.toNat : Int) = (c.toNat : Int) := by rw [← UInt8.toNat_inj]; omega
theorem head_iff (s : ByteArray) (k : Nat) : (s.data.toList.drop k).head? = some 123 ↔ ∃ h : k < s.size, (s[k].toNat : Int) = 123 := by
  by_cases h : k < s.size
  · rw [drop_get s k h]
    simp only [List.head?_cons, Option.some.injEq, is123]
    exact ⟨fun e => ⟨h, e⟩, fun ⟨_, e⟩ => e⟩
  · rw [List.drop_of_length_le (by rw [← size_len]; omega)]
    simp only [List.head?_nil, reduceCtorEq, false_iff, not_exists]
    exact fun h' => absurd h' h

section
variable {s : ByteArray} {c : UInt8} {k d : Nat} {R : Option Nat}
theorem cm_open (hlt : k < s.size) (H : am c (prv s k) (s.data.toList.drop k) d k = R) (h1 : (s[k].toNat : Int) = 36) (hk : k + 1 < s.size) (h2 : (s[k + 1].toNat : Int) = 123) :
    am c (prv s (k + 1)) (s.data.toList.drop (k + 1)) (d + 1) (k + 1) = R := by
  rw [drop_get s k hlt] at H
  unfold am at H
  rw [if_pos ⟨(is36 _).2 h1, (head_iff _ _).2 ⟨hk, h2⟩⟩] at H
  rw [prv_succ s k hlt]; exact H
theorem cm_skip (hlt : k < s.size) (H : am c (prv s k) (s.data.toList.drop k) d k = R) (n1 : ¬ ((s[k].toNat : Int) = 36 ∧ ∃ h : k + 1 < s.size, (s[k + 1].toNat : Int) = 123))
    (h2 : ((prv s k).toNat : Int) = 36 ∧ (s[k].toNat : Int) = 123) :
    am c (prv s (k + 1)) (s.data.toList.drop (k + 1)) d (k + 1) = R := by
  rw [drop_get s k hlt] at H
  unfold am at H
  rw [if_neg (by rw [is36, head_iff]; exact n1), if_pos ⟨(is36 _).2 h2.1, (is123 _).2 h2.2⟩] at H
  rw [prv_succ s k hlt]; exact H
theorem cm_close (hlt : k < s.size) (H : am c (prv s k) (s.data.toList.drop k) d k = R) (n1 : ¬ ((s[k].toNat : Int) = 36 ∧ ∃ h : k + 1 < s.size, (s[k + 1].toNat : Int) = 123))
    (n2 : ¬ (((prv s k).toNat : Int) = 36 ∧ (s[k].toNat : Int) = 123)) (hd : 0 < d) (h3 : (s[k].toNat : Int) = 125) :
    am c (prv s (k + 1)) (s.data.toList.drop (k + 1)) (d - 1) (k + 1) = R := by
  rw [drop_get s k hlt] at H
  unfold am at H
  rw [if_neg (by rw [is36, head_iff]; exact n1), if_neg (by rw [is36, is123]; exact n2), if_pos hd, if_pos ((is125 _).2 h3)] at H
  rw [prv_succ s k hlt]; exact H
theorem cm_in (hlt : k < s.size) (H : am c (prv s k) (s.data.toList.drop k) d k = R) (n1 : ¬ ((s[k].toNat : Int) = 36 ∧ ∃ h : k + 1 < s.size, (s[k + 1].toNat : Int) = 123))
    (n2 : ¬ (((prv s k).toNat : Int) = 36 ∧ (s[k].toNat : Int) = 123)) (hd : 0 < d) (h3 : ¬ (s[k].toNat : Int) = 125) :
    am c (prv s (k + 1)) (s.data.toList.drop (k + 1)) d (k + 1) = R := by
  rw [drop_get s k hlt] at H
  unfold am at H
  rw [if_neg (by rw [is36, head_iff]; exact n1), if_neg (by rw [is36, is123]; exact n2), if_pos hd, if_neg (by rw [is125]; exact h3)] at H
  rw [prv_succ s k hlt]; exact H
theorem cm_hit (hlt : k < s.size) (H : am c (prv s k) (s.data.toList.drop k) d k = R) (n1 : ¬ ((s[k].toNat : Int) = 36 ∧ ∃ h : k + 1 < s.size, (s[k + 1].toNat : Int) = 123))
    (n2 : ¬ (((prv s k).toNat : Int) = 36 ∧ (s[k].toNat : Int) = 123)) (hd : ¬ 0 < d) (h3 : (s[k].toNat : Int) = (c.toNat : Int)) : R = some k := by
  rw [drop_get s k hlt] at H
  unfold am at H
  rw [if_neg (by rw [is36, head_iff]; exact n1), if_neg (by rw [is36, is123]; exact n2), if_neg hd, if_pos ((isC _ _).2 h3)] at H
  exact H.symm
theorem cm_miss (hlt : k < s.size) (H : am c (prv s k) (s.data.toList.drop k) d k = R) (n1 : ¬ ((s[k].toNat : Int) = 36 ∧ ∃ h : k + 1 < s.size, (s[k + 1].toNat : Int) = 123))
    (n2 : ¬ (((prv s k).toNat : Int) = 36 ∧ (s[k].toNat : Int) = 123)) (hd : ¬ 0 < d) (h3 : ¬ (s[k].toNat : Int) = (c.toNat : Int)) :
    am c (prv s (k + 1)) (s.data.toList.drop (k + 1)) d (k + 1) = R := by
  rw [drop_get s k hlt] at H
  unfold am at H
  rw [if_neg (by rw [is36, head_iff]; exact n1), if_neg (by rw [is36, is123]; exact n2), if_neg hd, if_neg (by rw [isC]; exact h3)] at H
  rw [prv_succ s k hlt]; exact H
end

set_option maxHeartbeats 4000000 in
theorem model_any (s : ByteArray) (c : UInt8) (w : World) (hs : s.size ≤ maxLen) :
    Calls Trym.prog 13 #[.string s, .int .u8 (c.toNat : Int)] w fun e w' => e = .returned (.tuple #[.string (cutB s (cut s c)), .string (cutA s (cut s c))]) ∧ ∃ n, w' = w.drewN n := by
  unfold maxLen at hs
  have hc := c.toNat_lt
  go_enter Trym.func13, Trym.ntmps13
  go_wp2
  go_loop [6, 7] (fun t i => ∃ k d : Nat, k ≤ s.size ∧ d ≤ k ∧ t = .int .i64 d ∧ i = .int .i64 k ∧ Hid (am c (prv s k) (s.data.toList.drop k) d k = cut s c)) (fun _ i => s.size - (intOf i).toNat)
  case atStart => exact ⟨0, 0, Nat.zero_le _, Nat.le_refl _, rfl, rfl, rfl⟩
  case round =>
    obtain ⟨k, d, hk, hd, rfl, rfl, H⟩ := hrel
    by_cases hlt : k < s.size
    · have hb1 : (k : Int) + 1 ≤ (s.size : Int) := by omega
      go_wp2
      all_goals
        have hp0 : k = 0 → ((prv s k).toNat : Int) = 0 := fun h => by subst h; rfl
        have hp1 : (h : 1 ≤ k) → ((prv s k).toNat : Int) = (s[k - 1].toNat : Int) := fun h => by rw [prv_get s k (by omega) h]
      all_goals first
        | (go_round
           case rel =>
             try simp only [beq_iff_eq, beq_eq_false_iff_ne, ne_eq] at *
             first
             | exact ⟨k + 1, d + 1, by omega, by omega, by go_num, by go_num, cm_open hlt H.out (by omega) (by omega) (by omega)⟩
             | exact ⟨k + 1, d, by omega, by omega, by go_num, by go_num, cm_skip hlt H.out (by rintro ⟨x, h, y⟩; omega) (by omega)⟩
             | exact ⟨k + 1, d - 1, by omega, by omega, by go_num, by go_num, cm_close hlt H.out (by rintro ⟨x, h, y⟩; omega) (by omega) (by omega) (by omega)⟩
             | exact ⟨k + 1, d, by omega, by omega, by go_num, by go_num, cm_in hlt H.out (by rintro ⟨x, h, y⟩; omega) (by omega) (by omega) (by omega)⟩
             | exact ⟨k + 1, d, by omega, by omega, by go_num, by go_num, cm_miss hlt H.out (by rintro ⟨x, h, y⟩; omega) (by omega) (by omega) (by omega)⟩
           case measure => simp [intOf]; omega)
        | (have hR : cut s c = some k := by
             try simp only [beq_iff_eq, beq_eq_false_iff_ne, ne_eq] at *
             exact cm_hit hlt H.out (by rintro ⟨x, h, y⟩; omega) (by omega) (by omega) (by omega)
           have HR : Hid (cut s c = some k) := hR
           clear hR hp0 hp1
           go_quiet (fail)
           go_wp2
           go_ret2
           exact ⟨by rw [HR.out]; rfl, _, rfl⟩)
    · go_wp2
      go_ret2
      have h := H.out
      rw [List.drop_of_length_le (by rw [← size_len]; omega)] at h
      exact ⟨by rw [← h]; rfl, 0, rfl⟩
end Go.Proofs.Qxb6603098aMods.Cut
