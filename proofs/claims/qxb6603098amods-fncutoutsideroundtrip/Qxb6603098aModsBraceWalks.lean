/- The walks that the brace laws share: HasPrefix, closingBrace, firstBalancedClose. -/
import Derived.Test.Qxb6603098aModsRows
import Derived.Test.Qxb6603098aModsBracePlain
import Derived.WalkKit
import Derived.WalkSpells
namespace Go.Proofs.Qxb6603098aMods.Brace
open Go.RowKit
open Go.Proofs.Qxb6603098aMods.Plain

theorem size_len (s : ByteArray) : s.size = s.data.toList.length := by
  simp only [Array.length_toList]; rfl
theorem ext_toList (s : ByteArray) (a b : Nat) : (s.extract a b).toList = (s.data.toList.drop a).take (b - a) := by
  obtain ⟨⟨l⟩⟩ := s
  rw [ByteArray.extract_mk]
  simp
theorem ext_data (s : ByteArray) (a b : Nat) : (s.extract a b).data.toList = (s.data.toList.drop a).take (b - a) := by
  obtain ⟨⟨l⟩⟩ := s
  rw [ByteArray.extract_mk]
theorem ext_end (s : ByteArray) (a : Nat) : (s.extract a s.size).data.toList = s.data.toList.drop a := by
  rw [ext_data, size_len]
  exact List.take_of_length_le (by simp)

set_option maxHeartbeats 400000 in
theorem lite_any (s : ByteArray) (w : World) :
    Calls Trym.prog 18 #[.string s, .string ⟨#[36, 123]⟩] w fun e w' => e = .returned (.bool (opn s.data.toList)) ∧ w' = w := by
  rw [← opn_take, ← size_len]
  go_enter Trym.func18, Trym.ntmps18
  go_wp2
  · have h : 2 ≤ s.size := by omega
    go_ret
    refine ⟨?_, rfl⟩
    show Ending.returned (Value.bool ((s.extract 0 2).toList == [36, 123])) = _
    rw [ext_toList]
    simp [h]
  · have h : ¬ 2 ≤ s.size := by omega
    go_ret
    refine ⟨?_, rfl⟩
    show Ending.returned (Value.bool false) = _
    simp [h]

theorem prefix_any (s : ByteArray) (w : World) :
    Calls Trym.prog 17 #[.string s, .string ⟨#[36, 123]⟩] w fun e w' => e = .returned (.bool (opn s.data.toList)) ∧ w' = w := by
  go_enter Trym.func17, Trym.ntmps17
  go_wp2_with (go_at_call 18; refine (lite_any _ _).mono ?_; rintro e w' ⟨rfl, rfl⟩)
  go_ret
  exact ⟨rfl, rfl⟩

theorem drop_get (s : ByteArray) (k : Nat) (h : k < s.size) : s.data.toList.drop k = s[k] :: s.data.toList.drop (k + 1) :=
  List.drop_eq_getElem_cons (by rw [← size_len]; exact h)

/-- The byte before place k; 0 at the head. -/
def prv (s : ByteArray) (k : Nat) : UInt8 := (if k = 0 then none else s.data.toList[k - 1]?).getD 0

theorem prv_succ (s : ByteArray) (k : Nat) (h : k < s.size) : prv s (k + 1) = s[k] := by
  have e : s.data.toList[k]? = some s[k] := by
    rw [List.getElem?_eq_getElem (by rw [← size_len]; exact h)]; rfl
  simp [prv, e]

theorem prv_get (s : ByteArray) (k : Nat) (h : k - 1 < s.size) (hk : 1 ≤ k) : prv s k = s[k - 1] := by
  obtain ⟨j, rfl⟩ : ∃ j, k = j + 1 := ⟨k - 1, by omega⟩
  exact prv_succ s j h

theorem ret_int {k : IntKind} {a b : Int} (h : a = b) : Ending.returned (.int k a) = .returned (.int k b) := by rw [h]
theorem is125 (x : UInt8) : x = 125 ↔ (x.toNat : Int) = 125 := by rw [← UInt8.toNat_inj]; simp; omega
theorem is36 (x : UInt8) : x = 36 ↔ (x.toNat : Int) = 36 := by rw [← UInt8.toNat_inj]; simp; omega
theorem is123 (x : UInt8) : x = 123 ↔ (x.toNat : Int) = 123 := by rw [← UInt8.toNat_inj]; simp; omega

theorem md_hit (s : ByteArray) (k a b : Nat) (R : Int) (hlt : k < s.size) (H : fb (prv s k) (s.data.toList.drop k) ((a : Int) - b) k = R)
    (h1 : (s[k].toNat : Int) = 125) (h2 : (a : Int) = b + 1) : (k : Int) = R := by
  rw [drop_get s k hlt] at H
  unfold fb at H
  rw [if_pos ⟨(is125 _).2 h1, by omega⟩] at H
  exact H

theorem md_step (s : ByteArray) (k a b a' b' : Nat) (R : Int) (hlt : k < s.size) (H : fb (prv s k) (s.data.toList.drop k) ((a : Int) - b) k = R)
    (ho : ¬ ((s[k].toNat : Int) = 125 ∧ (a : Int) = b + 1))
    (ha : (a' : Int) = a + (if ((prv s k).toNat : Int) = 36 ∧ (s[k].toNat : Int) = 123 then 1 else 0))
    (hb : (b' : Int) = b + (if (s[k].toNat : Int) = 125 then 1 else 0)) :
    fb (prv s (k + 1)) (s.data.toList.drop (k + 1)) ((a' : Int) - b') (k + 1) = R := by
  rw [drop_get s k hlt] at H
  unfold fb at H
  rw [if_neg (by rw [is125]; rintro ⟨x, y⟩; exact ho ⟨x, by omega⟩)] at H
  simp only [is125, is36, is123] at H
  rw [prv_succ s k hlt, ← H]
  congr 1
  omega

set_option maxHeartbeats 400000 in
theorem model_any (s : ByteArray) (w : World) (hs : s.size ≤ maxLen) :
    Calls Trym.prog 9 #[.string s] w fun e w' => e = .returned (.int .i64 (fb 0 s.data.toList 0 0)) ∧ w' = w := by
  unfold maxLen at hs
  go_enter Trym.func9, Trym.ntmps9
  go_wp2
  go_loop [3, 4, 5] (fun o c i => ∃ k a b : Nat, k ≤ s.size ∧ a ≤ k ∧ b ≤ k ∧ o = .int .i64 a ∧ c = .int .i64 b ∧ i = .int .i64 k ∧ Hid (fb (prv s k) (s.data.toList.drop k) ((a : Int) - b) k = fb 0 s.data.toList 0 0)) (fun _ _ i => s.size - (intOf i).toNat)
  case atStart => exact ⟨0, 0, 0, Nat.zero_le _, Nat.le_refl _, Nat.le_refl _, rfl, rfl, rfl, rfl⟩
  case round =>
    obtain ⟨k, a, b, hk, ha, hb, rfl, rfl, rfl, H⟩ := hrel
    by_cases hlt : k < s.size
    · go_wp2
      · go_ret
        exact ⟨ret_int (md_hit s k a b _ hlt H.out (by assumption) (by have h : ((a : Int) == (b : Int) + 1) = true := by assumption
                                                                       simpa using h)), rfl⟩
      all_goals
        go_round
        case rel =>
          have hp0 : k = 0 → ((prv s k).toNat : Int) = 0 := fun h => by subst h; rfl
          have hp1 : (h : 1 ≤ k) → ((prv s k).toNat : Int) = (s[k - 1].toNat : Int) := fun h => by rw [prv_get s k (by omega) h]
          simp only [beq_iff_eq, beq_eq_false_iff_ne, ne_eq] at *
          first
          | exact ⟨k + 1, a, b, by omega, by omega, by omega, by go_num, by go_num, by go_num, (md_step s k a b a b _ hlt H.out (by omega) (by split <;> omega) (by split <;> omega))⟩
          | exact ⟨k + 1, a, b + 1, by omega, by omega, by omega, by go_num, by go_num, by go_num, (md_step s k a b a (b + 1) _ hlt H.out (by omega) (by split <;> omega) (by split <;> omega))⟩
          | exact ⟨k + 1, a + 1, b, by omega, by omega, by omega, by go_num, by go_num, by go_num, (md_step s k a b (a + 1) b _ hlt H.out (by omega) (by split <;> omega) (by split <;> omega))⟩
        case measure => simp [intOf]; omega
    · go_wp2
      go_ret
      have h := H.out
      rw [List.drop_of_length_le (by rw [← size_len]; omega)] at h
      exact ⟨ret_int h, rfl⟩

/-! ### closingBrace -/
theorem pre_at (s : ByteArray) (k : Nat) (b : Bool) (h : opn (s.data.toList.drop k) = b) (w : World) :
    Calls Trym.prog 17 #[.string (s.extract k s.size), .string ⟨#[36, 123]⟩] w fun e w' => e = .returned (.bool b) ∧ w' = w := by
  rw [← h, ← ext_end]
  exact prefix_any _ w

/-- Where the skipping scan stands: 'p' the byte that it saw last. -/
def At (s : ByteArray) (k : Nat) (d : Int) (R : Int) : Prop :=
  ∃ p : UInt8, fb p (s.data.toList.drop k) d k = R ∧ ¬ (p = 36 ∧ (s.data.toList.drop k).head? = some 123)

theorem at_open {s : ByteArray} {k : Nat} {d R : Int} (h : At s k d R) (ho : opn (s.data.toList.drop k) = true) : k + 2 ≤ s.size ∧ At s (k + 2) (d + 1) R := by
  obtain ⟨p, hf, _⟩ := h
  obtain ⟨r, hr⟩ := opn_true ho
  have hl : (s.data.toList.drop k).length = r.length + 2 := by rw [hr]; rfl
  rw [List.length_drop, ← size_len] at hl
  have hd : s.data.toList.drop (k + 2) = r := by rw [← List.drop_drop, hr]; rfl
  rw [hr, fb_open] at hf
  exact ⟨by omega, 123, by rw [hd]; exact hf, by simp⟩

theorem at_close {s : ByteArray} {k : Nat} {d R : Int} (h : At s k d R) (hlt : k < s.size) (hc : (s[k].toNat : Int) = 125) :
    (d = 1 → (k : Int) = R) ∧ (d ≠ 1 → At s (k + 1) (d - 1) R) := by
  obtain ⟨p, hf, _⟩ := h
  rw [drop_get s k hlt, (is125 _).2 hc, fb_close] at hf
  refine ⟨fun h => by rw [if_pos h] at hf; exact hf, fun h => ?_⟩
  rw [if_neg h] at hf
  exact ⟨125, hf, by simp⟩

theorem at_else {s : ByteArray} {k : Nat} {d R : Int} (h : At s k d R) (hlt : k < s.size) (ho : opn (s.data.toList.drop k) = false)
    (hc : ¬ (s[k].toNat : Int) = 125) : At s (k + 1) d R := by
  obtain ⟨p, hf, hp⟩ := h
  rw [drop_get s k hlt] at hf hp ho
  rw [fb_else _ _ _ _ _ (by rw [ne_eq, is125]; exact hc) (by simpa using hp)] at hf
  exact ⟨s[k], hf, opn_false ho⟩

theorem at_end {s : ByteArray} {k : Nat} {d R : Int} (h : At s k d R) (hge : s.size ≤ k) : -1 = R := by
  obtain ⟨p, hf, _⟩ := h
  rw [List.drop_of_length_le (by rw [← size_len]; exact hge)] at hf
  exact hf

set_option maxHeartbeats 400000 in
theorem close_any (s : ByteArray) (w : World) (hs : s.size ≤ maxLen) :
    Calls Trym.prog 15 #[.string s] w fun e w' => e = .returned (.int .i64 (fb 0 s.data.toList 0 0)) ∧ w' = w := by
  unfold maxLen at hs
  go_enter Trym.func15, Trym.ntmps15
  go_wp2
  go_loop [3, 4] (fun t i => ∃ (k : Nat) (d : Int), k ≤ s.size ∧ -(k : Int) ≤ d ∧ d ≤ k ∧ t = .int .i64 d ∧ i = .int .i64 k ∧ At s k d (fb 0 s.data.toList 0 0)) (fun _ i => s.size - (intOf i).toNat)
  case atStart => exact ⟨0, 0, Nat.zero_le _, by omega, by omega, rfl, rfl, ⟨0, rfl, by simp⟩⟩
  case round =>
    obtain ⟨k, d, hk, hd1, hd2, rfl, rfl, H⟩ := hrel
    by_cases hlt : k < s.size
    · rcases ho : opn (s.data.toList.drop k) with _ | _
      · have HO : Hid (opn (s.data.toList.drop k) = false) := ho
        clear ho
        go_wp2_with (go_at_call 17; refine (pre_at s k false HO.out _).mono ?_; rintro e w' ⟨rfl, rfl⟩)
        · have h1 : ((s[k].toNat : Int) == 125) = true := by assumption
          have h2 : (d - 1 == 0) = true := by assumption
          go_ret
          exact ⟨ret_int ((at_close H hlt (by simpa using h1)).1 (by simp at h2; omega)), rfl⟩
        · have h1 : ((s[k].toNat : Int) == 125) = true := by assumption
          have h2 : (d - 1 == 0) = false := by assumption
          go_round
          case rel => exact ⟨k + 1, d - 1, by omega, by omega, by omega, rfl, by go_num, (at_close H hlt (by simpa using h1)).2 (by simp at h2; omega)⟩
          case measure => simp [intOf]; omega
        · have h1 : ((s[k].toNat : Int) == 125) = false := by assumption
          go_round
          case rel => exact ⟨k + 1, d, by omega, by omega, by omega, rfl, by go_num, at_else H hlt HO.out (by simpa using h1)⟩
          case measure => simp [intOf]; omega
      · have HO : Hid (opn (s.data.toList.drop k) = true) := ho
        clear ho
        obtain ⟨h2, H2⟩ := at_open H HO.out
        go_wp2_with (go_at_call 17; refine (pre_at s k true HO.out _).mono ?_; rintro e w' ⟨rfl, rfl⟩)
        go_round
        case rel => exact ⟨k + 2, d + 1, by omega, by omega, by omega, rfl, by go_num, H2⟩
        case measure => simp [intOf]; omega
    · go_wp2
      go_ret
      exact ⟨ret_int (at_end H (by omega)), rfl⟩

theorem zzclose_any (s : ByteArray) (w : World) (hs : s.size ≤ maxLen) :
    Calls Trym.prog 8 #[.string s] w fun e w' => e = .returned (.int .i64 (fb 0 s.data.toList 0 0)) ∧ w' = w := by
  go_enter Trym.func8, Trym.ntmps8
  go_wp2_with (go_at_call 15; refine (close_any s _ hs).mono ?_; rintro e w' ⟨rfl, rfl⟩)
  go_ret
  exact ⟨rfl, rfl⟩
end Go.Proofs.Qxb6603098aMods.Brace
