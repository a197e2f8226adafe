/- The walk of cutOutside. -/
import Derived.Test.Qxb6603098aModsCutWalks
import Derived.OpenShut
namespace Go.Proofs.Qxb6603098aMods.Cut
open Go.RowKit
open Brace Plain

theorem byte_of (a : Int) (h : (Lit.int .u8 a).wf = true) : ∃ c : UInt8, a = (c.toNat : Int) := by
  have hb : 0 ≤ a ∧ a ≤ 255 := bounds_u8 h
  refine ⟨UInt8.ofNat a.toNat, ?_⟩
  rw [UInt8.toNat_ofNat']
  omega

/-- closingBrace of what stands from place k on. -/
theorem close_at (s : ByteArray) (k : Nat) (v : Int) (h : fb 0 (s.data.toList.drop k) 0 0 = v) (hs : s.size ≤ maxLen) (w : World) :
    Calls Trym.prog 15 #[.string (s.extract k s.size)] w fun e w' => e = .returned (.int .i64 v) ∧ w' = w := by
  rw [← h, ← ext_end]
  exact close_any _ w (by rw [ByteArray.size_extract]; omega)

/-- Where cutOutside stands: outside every expression, at place k. -/
def Out (s : ByteArray) (c : UInt8) (k : Nat) (R : Option Nat) : Prop :=
  ∃ p : UInt8, am c p (s.data.toList.drop k) 0 k = R ∧ ¬ (p = 36 ∧ (s.data.toList.drop k).head? = some 123)

section
variable {s : ByteArray} {c : UInt8} {k : Nat} {R : Option Nat}
theorem out_open (h : Out s c k R) (ho : opn (s.data.toList.drop k) = true) :
    (fb 0 (s.data.toList.drop k) 0 0 = -1 ∧ R = none) ∨ ∃ e : Nat, fb 0 (s.data.toList.drop k) 0 0 = (e : Int) ∧ k + e + 1 ≤ s.size ∧ Out s c (k + e + 1) R := by
  obtain ⟨p, hf, _⟩ := h
  obtain ⟨r, hr⟩ := opn_true ho
  rcases fb_range (s.data.toList.drop k) 0 0 0 with h | ⟨e, he, h, _⟩
  · rw [hr] at h hf ⊢
    exact Or.inl ⟨h, by rw [← hf]; exact (am_skip c p r k).1 h⟩
  · right
    rw [List.length_drop, ← size_len] at he
    refine ⟨e, by rw [h]; omega, by omega, 125, ?_, by simp⟩
    rw [hr] at h hf
    rw [(am_skip c p r k).2 e (by rw [h]; omega), ← hr, List.drop_drop] at hf
    exact hf
theorem out_hit (h : Out s c k R) (hlt : k < s.size) (ho : opn (s.data.toList.drop k) = false) (hc : (s[k].toNat : Int) = (c.toNat : Int)) : R = some k := by
  obtain ⟨p, hf, hp⟩ := h
  rw [drop_get s k hlt] at hf hp ho
  have hc' := (isC _ _).2 hc
  rw [hc'] at hf hp ho
  rw [am_hit _ _ _ _ (opn_false ho) (by simpa using hp)] at hf
  exact hf.symm
theorem out_miss (h : Out s c k R) (hlt : k < s.size) (ho : opn (s.data.toList.drop k) = false) (hc : ¬ (s[k].toNat : Int) = (c.toNat : Int)) : Out s c (k + 1) R := by
  obtain ⟨p, hf, hp⟩ := h
  rw [drop_get s k hlt] at hf hp ho
  rw [am_miss _ _ _ _ _ (opn_false ho) (by simpa using hp) (by rw [ne_eq, isC]; exact hc)] at hf
  exact ⟨s[k], hf, opn_false ho⟩
theorem out_end (h : Out s c k R) (hge : s.size ≤ k) : R = none := by
  obtain ⟨p, hf, _⟩ := h
  rw [List.drop_of_length_le (by rw [← size_len]; exact hge)] at hf
  exact hf.symm
end

set_option maxHeartbeats 1000000 in
theorem outside_any (s : ByteArray) (c : UInt8) (w : World) (hs : s.size ≤ maxLen) :
    Calls Trym.prog 16 #[.string s, .int .u8 (c.toNat : Int)] w fun e w' => e = .returned (.tuple #[.string (cutB s (cut s c)), .string (cutA s (cut s c))]) ∧ ∃ n, w' = w.drewN n := by
  have hs0 := hs
  unfold maxLen at hs
  have hc := c.toNat_lt
  go_enter Trym.func16, Trym.ntmps16
  go_wp2
  go_loop [6] (fun i => ∃ k : Nat, k ≤ s.size ∧ i = .int .i64 k ∧ Out s c k (cut s c)) (fun i => s.size - (intOf i).toNat)
  case atStart => exact ⟨0, Nat.zero_le _, rfl, 0, rfl, by simp⟩
  case round =>
    obtain ⟨k, hk, rfl, H⟩ := hrel
    by_cases hlt : k < s.size
    · have hb1 : (k : Int) + 1 ≤ (s.size : Int) := by omega
      rcases ho : opn (s.data.toList.drop k) with _ | _
      · have HO : Hid (opn (s.data.toList.drop k) = false) := ho
        clear ho
        go_wp2_with (go_at_call 17; refine (pre_at s k false HO.out _).mono ?_; rintro e w' ⟨rfl, rfl⟩)
        · have h1 : ((s[k].toNat : Int) == (c.toNat : Int)) = true := by assumption
          have HR : Hid (cut s c = some k) := out_hit H hlt HO.out (by simpa using h1)
          clear H
          go_quiet (fail)
          go_wp2
          go_ret2
          exact ⟨by rw [HR.out]; rfl, _, rfl⟩
        · have h1 : ((s[k].toNat : Int) == (c.toNat : Int)) = false := by assumption
          go_round
          case rel => exact ⟨k + 1, by omega, by go_num, out_miss H hlt HO.out (by simpa using h1)⟩
          case measure => simp [intOf]; omega
      · have HO : Hid (opn (s.data.toList.drop k) = true) := ho
        clear ho
        rcases out_open H HO.out with ⟨hf, hR⟩ | ⟨e, hf, hke, H2⟩
        · have HF : Hid (fb 0 (s.data.toList.drop k) 0 0 = -1) := hf
          have HR : Hid (cut s c = none) := hR
          clear hf hR H
          go_wp2_with (first
            | (go_at_call 17; refine (pre_at s k true HO.out _).mono ?_; rintro e w' ⟨rfl, rfl⟩)
            | (go_at_call 15; refine (close_at s k (-1) HF.out hs0 _).mono ?_; rintro e w' ⟨rfl, rfl⟩))
          go_ret2
          exact ⟨by rw [HR.out]; rfl, 0, rfl⟩
        · have HF : Hid (fb 0 (s.data.toList.drop k) 0 0 = (e : Int)) := hf
          clear hf H
          go_wp2_with (first
            | (go_at_call 17; refine (pre_at s k true HO.out _).mono ?_; rintro e w' ⟨rfl, rfl⟩)
            | (go_at_call 15; refine (close_at s k (e : Int) HF.out hs0 _).mono ?_; rintro e w' ⟨rfl, rfl⟩))
          go_round
          case rel => exact ⟨k + e + 1, by omega, by go_num, H2⟩
          case measure => simp [intOf]; omega
    · go_wp2
      go_ret2
      exact ⟨by rw [out_end H (by omega)]; rfl, 0, rfl⟩

theorem zzoutside_any (s : ByteArray) (c : UInt8) (w : World) (hs : s.size ≤ maxLen) :
    Calls Trym.prog 12 #[.string s, .int .u8 (c.toNat : Int)] w fun e w' => e = .returned (.tuple #[.string (cutB s (cut s c)), .string (cutA s (cut s c))]) ∧ ∃ n, w' = w.drewN n := by
  go_enter Trym.func12, Trym.ntmps12
  go_wp2_with (go_at_call 16; refine (outside_any s c _ hs).mono ?_; rintro e w' ⟨rfl, n, rfl⟩)
  go_ret2
  exact ⟨rfl, _, rfl⟩
end Go.Proofs.Qxb6603098aMods.Cut
