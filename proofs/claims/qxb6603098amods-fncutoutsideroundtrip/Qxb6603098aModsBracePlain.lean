/- The plain functions of the brace laws, and what they obey: no Go in sight. -/
namespace Go.Proofs.Qxb6603098aMods.Plain

/-- The counting scan: 'p' is the byte before 'l', 'd' opens less closes, 'j' the place. -/
def fb : UInt8 → List UInt8 → Int → Nat → Int
  | _, [], _, _ => -1
  | p, a :: l, d, j =>
    if a = 125 ∧ d = 1 then (j : Int)
    else fb a l (d + (if p = 36 ∧ a = 123 then 1 else 0) - (if a = 125 then 1 else 0)) (j + 1)

/-- The depth automaton: the place of the cut, if there is one. -/
def am (sep : UInt8) : UInt8 → List UInt8 → Nat → Nat → Option Nat
  | _, [], _, _ => none
  | p, a :: l, d, i =>
    if a = 36 ∧ l.head? = some 123 then am sep a l (d + 1) (i + 1)
    else if p = 36 ∧ a = 123 then am sep a l d (i + 1)
    else if 0 < d then am sep a l (if a = 125 then d - 1 else d) (i + 1)
    else if a = sep then some i
    else am sep a l d (i + 1)

theorem fb_range (l : List UInt8) : ∀ (p : UInt8) (d : Int) (j : Nat),
    fb p l d j = -1 ∨ ∃ k : Nat, k < l.length ∧ fb p l d j = (j : Int) + k ∧ l[k]? = some 125 := by
  induction l with
  | nil => intro p d j; exact Or.inl rfl
  | cons a l ih =>
    intro p d j
    unfold fb
    by_cases h : a = 125 ∧ d = 1
    · rw [if_pos h]; exact Or.inr ⟨0, by simp, by simp, by simp [h.1]⟩
    · rw [if_neg h]
      rcases ih a _ (j + 1) with h1 | ⟨k, hk, h1, h2⟩
      · exact Or.inl h1
      · refine Or.inr ⟨k + 1, by simp; omega, ?_, by simpa using h2⟩
        rw [h1]; omega

theorem fb_append (l u : List UInt8) : ∀ (p : UInt8) (d : Int) (j : Nat),
    (fb p l d j ≠ -1 → fb p (l ++ u) d j = fb p l d j) ∧
    (fb p l d j = -1 → fb p (l ++ u) d j = -1 ∨ (j : Int) + l.length ≤ fb p (l ++ u) d j) := by
  induction l with
  | nil =>
    intro p d j
    refine ⟨fun h => absurd rfl h, fun _ => ?_⟩
    rcases fb_range u p d j with h | ⟨k, _, h, _⟩
    · exact Or.inl h
    · right; simp only [List.nil_append, List.length_nil]; rw [h]; omega
  | cons a l ih =>
    intro p d j
    rw [List.cons_append]
    unfold fb
    by_cases h : a = 125 ∧ d = 1
    · rw [if_pos h, if_pos h]; exact ⟨fun _ => rfl, fun h => by omega⟩
    · rw [if_neg h, if_neg h]
      have := ih a (d + (if p = 36 ∧ a = 123 then 1 else 0) - (if a = 125 then 1 else 0)) (j + 1)
      refine ⟨this.1, fun h1 => ?_⟩
      rcases this.2 h1 with h2 | h2
      · exact Or.inl h2
      · right; simp only [List.length_cons]; omega

theorem fb_take (l : List UInt8) : ∀ (p : UInt8) (d : Int) (j k : Nat),
    fb p l d j = (j : Int) + k → fb p (l.take (k + 1)) d j = (j : Int) + k := by
  induction l with
  | nil => intro p d j k h; simp only [fb] at h; omega
  | cons a l ih =>
    intro p d j k h
    rw [List.take_succ_cons]
    unfold fb at h ⊢
    by_cases hc : a = 125 ∧ d = 1
    · rw [if_pos hc] at h ⊢; exact h
    · rw [if_neg hc] at h ⊢
      cases k with
      | zero =>
        rcases fb_range l a (d + (if p = 36 ∧ a = 123 then 1 else 0) - (if a = 125 then 1 else 0)) (j + 1) with h1 | ⟨k, _, h1, _⟩ <;> omega
      | succ k =>
        have := ih a (d + (if p = 36 ∧ a = 123 then 1 else 0) - (if a = 125 then 1 else 0)) (j + 1) k (by omega)
        rw [this]; omega

/-! the steps of the skipping scan -/
theorem fb_open (p : UInt8) (l : List UInt8) (d : Int) (j : Nat) : fb p (36 :: 123 :: l) d j = fb 123 l (d + 1) (j + 2) := by
  simp [fb]

theorem fb_close (p : UInt8) (l : List UInt8) (d : Int) (j : Nat) : fb p (125 :: l) d j = if d = 1 then (j : Int) else fb 125 l (d - 1) (j + 1) := by
  simp [fb]

theorem fb_else (p a : UInt8) (l : List UInt8) (d : Int) (j : Nat) (h : a ≠ 125) (hp : ¬ (p = 36 ∧ a = 123)) :
    fb p (a :: l) d j = fb a l d (j + 1) := by
  simp [fb, h, hp]

/-! the automaton against the scan: 'q' says whether an open brace is due next -/
theorem am_fb (sep : UInt8) (l : List UInt8) : ∀ (p : UInt8) (d : Nat) (j i : Nat), 1 ≤ d →
    (fb p l d j = -1 → am sep p l (d + (if p = 36 ∧ l.head? = some 123 then 1 else 0)) i = none) ∧
    (∀ k : Nat, fb p l d j = (j : Int) + k →
      am sep p l (d + (if p = 36 ∧ l.head? = some 123 then 1 else 0)) i = am sep 125 (l.drop (k + 1)) 0 (i + k + 1)) := by
  induction l with
  | nil => intro p d j i hd; exact ⟨fun _ => rfl, fun k h => by simp only [fb] at h; omega⟩
  | cons a l ih =>
    intro p d j i hd
    unfold fb
    by_cases hc : a = 125 ∧ (d : Int) = 1
    · obtain ⟨ha, hd1⟩ := hc
      have hd1 : d = 1 := by omega
      subst ha hd1
      rw [if_pos ⟨rfl, rfl⟩]
      refine ⟨fun h => by omega, fun k h => ?_⟩
      have hk : k = 0 := by omega
      subst hk
      simp [am]
    · rw [if_neg hc]
      by_cases h1 : a = 36 ∧ l.head? = some 123
      · obtain ⟨ha, hl⟩ := h1
        subst ha
        have e := ih 36 d (j + 1) (i + 1) hd
        simp only [hl, and_self, if_true] at e
        simp only [am, hl, and_self, if_true]
        simp only [List.head?_cons, Option.some.injEq, show ¬ ((36 : UInt8) = 123) by decide, show ¬ ((36 : UInt8) = 125) by decide, and_false, if_false, Int.add_zero, Int.sub_zero, Nat.add_zero]
        refine ⟨e.1, fun k h => ?_⟩
        cases k with
        | zero =>
          rcases fb_range l 36 d (j + 1) with h1 | ⟨k, _, h1, _⟩ <;> omega
        | succ k =>
          have := e.2 k (by omega)
          rw [this]; simp only [List.drop_succ_cons]; congr 1; omega
      · by_cases h2 : p = 36 ∧ a = 123
        · obtain ⟨hp, ha⟩ := h2
          subst hp ha
          have e := ih 123 (d + 1) (j + 1) (i + 1) (by omega)
          simp only [show ¬ ((123 : UInt8) = 36) by decide, false_and, if_false, Nat.add_zero] at e
          simp only [am, List.head?_cons, show ¬ ((123 : UInt8) = 36) by decide, show ¬ ((123 : UInt8) = 125) by decide, false_and, and_self, if_false, if_true, Int.sub_zero]
          have ec : ((d + 1 : Nat) : Int) = (d : Int) + 1 := by omega
          rw [ec] at e
          refine ⟨e.1, fun k h => ?_⟩
          cases k with
          | zero =>
            rcases fb_range l 123 ((d : Int) + 1) (j + 1) with h1 | ⟨k, _, h1, _⟩ <;> omega
          | succ k =>
            have := e.2 k (by omega)
            rw [this]; simp only [List.drop_succ_cons]; congr 1; omega
        · have hh : ¬ (p = 36 ∧ (a :: l).head? = some 123) := by simpa using h2
          simp only [if_neg h2, if_neg hh, Int.add_zero, Nat.add_zero]
          simp only [am, if_neg h1, if_neg h2, if_pos (show 0 < d by omega)]
          by_cases h3 : a = 125
          · subst h3
            have hd1 : 2 ≤ d := by
              have : ¬ (d : Int) = 1 := fun h => hc ⟨rfl, h⟩
              omega
            have e := ih 125 (d - 1) (j + 1) (i + 1) (by omega)
            have ec : ((d - 1 : Nat) : Int) = (d : Int) - 1 := by omega
            simp only [show ¬ ((125 : UInt8) = 36) by decide, false_and, if_false, Nat.add_zero, ec] at e
            simp only [if_true]
            refine ⟨e.1, fun k h => ?_⟩
            cases k with
            | zero =>
              rcases fb_range l 125 ((d : Int) - 1) (j + 1) with h1 | ⟨k, _, h1, _⟩ <;> omega
            | succ k =>
              have := e.2 k (by omega)
              rw [this]; simp only [List.drop_succ_cons]; congr 1; omega
          · have e := ih a d (j + 1) (i + 1) hd
            simp only [if_neg h1, Nat.add_zero] at e
            simp only [if_neg h3, Int.sub_zero]
            refine ⟨e.1, fun k h => ?_⟩
            cases k with
            | zero =>
              rcases fb_range l a (d : Int) (j + 1) with h1 | ⟨k, _, h1, _⟩ <;> omega
            | succ k =>
              have := e.2 k (by omega)
              rw [this]; simp only [List.drop_succ_cons]; congr 1; omega

/-- An expression opens at the place: what the automaton does over it. -/
theorem am_skip (sep p : UInt8) (l : List UInt8) (i : Nat) :
    (fb 0 (36 :: 123 :: l) 0 0 = -1 → am sep p (36 :: 123 :: l) 0 i = none) ∧
    (∀ k : Nat, fb 0 (36 :: 123 :: l) 0 0 = (k : Int) → am sep p (36 :: 123 :: l) 0 i = am sep 125 ((36 :: 123 :: l).drop (k + 1)) 0 (i + k + 1)) := by
  have e := am_fb sep l 123 1 2 (i + 2) (Nat.le_refl _)
  simp only [show ¬ ((123 : UInt8) = 36) by decide, false_and, if_false, Nat.add_zero] at e
  have e0 : am sep p (36 :: 123 :: l) 0 i = am sep 123 l 1 (i + 2) := by simp [am]
  rw [fb_open, e0]
  refine ⟨e.1, fun k h => ?_⟩
  match k with
  | 0 => rcases fb_range l 123 (0 + 1) (0 + 2) with h1 | ⟨k, _, h1, _⟩ <;> omega
  | 1 => rcases fb_range l 123 (0 + 1) (0 + 2) with h1 | ⟨k, _, h1, _⟩ <;> omega
  | k + 2 =>
    have := e.2 k (by rw [show ((1 : Nat) : Int) = 0 + 1 by omega]; rw [show (2 : Nat) = 0 + 2 by omega]; rw [h]; omega)
    rw [this]; simp only [List.drop_succ_cons]; congr 1; omega

theorem am_hit (sep p : UInt8) (l : List UInt8) (i : Nat) (h : ¬ (sep = 36 ∧ l.head? = some 123)) (hp : ¬ (p = 36 ∧ sep = 123)) :
    am sep p (sep :: l) 0 i = some i := by
  simp [am, h, hp]

theorem am_miss (sep p a : UInt8) (l : List UInt8) (i : Nat) (h : ¬ (a = 36 ∧ l.head? = some 123)) (hp : ¬ (p = 36 ∧ a = 123)) (hs : a ≠ sep) :
    am sep p (a :: l) 0 i = am sep a l 0 (i + 1) := by
  simp [am, h, hp, hs]

/-- What a found cut says. -/
theorem am_some (sep : UInt8) (l : List UInt8) : ∀ (p : UInt8) (d i c : Nat), am sep p l d i = some c →
    ∃ k : Nat, c = i + k ∧ k < l.length ∧ l[k]? = some sep ∧ ¬ (sep = 36 ∧ (l.drop (k + 1)).head? = some 123) ∧
      (p = 36 → l.head? = some 123 → 0 < k) ∧
      am sep p (l.take k) d i = none ∧
      ∀ u : List UInt8, ¬ (sep = 36 ∧ u.head? = some 123) → am sep p (l.take (k + 1) ++ u) d i = some c := by
  induction l with
  | nil => intro p d i c h; simp [am] at h
  | cons a l ih =>
    intro p d i c h
    have go : ∀ (d' : Nat), am sep a l d' (i + 1) = some c →
        (∀ m : List UInt8, (a = 36 ∧ l.head? = some 123 ↔ a = 36 ∧ m.head? = some 123) → am sep p (a :: m) d i = am sep a m d' (i + 1)) →
        ∃ k : Nat, c = i + k ∧ k < (a :: l).length ∧ (a :: l)[k]? = some sep ∧ ¬ (sep = 36 ∧ ((a :: l).drop (k + 1)).head? = some 123) ∧
          (p = 36 → (a :: l).head? = some 123 → 0 < k) ∧
          am sep p ((a :: l).take k) d i = none ∧
          ∀ u : List UInt8, ¬ (sep = 36 ∧ u.head? = some 123) → am sep p ((a :: l).take (k + 1) ++ u) d i = some c := by
      intro d' h' st
      obtain ⟨k, hc, hk, hs, hn, hpos, h0, hu⟩ := ih a d' (i + 1) c h'
      have hh : ∀ v : List UInt8, (a = 36 ∧ l.head? = some 123 ↔ a = 36 ∧ (l.take (k + 1) ++ v).head? = some 123) := by
        intro v
        cases l with
        | nil => simp at hk
        | cons b l => simp
      have hh0 : (a = 36 ∧ l.head? = some 123 ↔ a = 36 ∧ (l.take k).head? = some 123) := by
        cases l with
        | nil => simp at hk
        | cons b l =>
          cases k with
          | zero =>
            simp only [List.take_zero, List.head?_nil, reduceCtorEq, and_false, iff_false]
            rintro ⟨e1, e2⟩
            exact absurd (hpos e1 e2) (by omega)
          | succ k => simp
      refine ⟨k + 1, by omega, by simp; omega, by simpa using hs, by simpa using hn, fun _ _ => by omega, ?_, fun u hu' => ?_⟩
      · rw [List.take_succ_cons, st _ hh0]; exact h0
      · rw [List.take_succ_cons, List.cons_append, st _ (hh u)]; exact hu u hu'
    by_cases h1 : a = 36 ∧ l.head? = some 123
    · refine go (d + 1) (by simpa [am, h1] using h) ?_
      intro m hm
      have := hm.1 h1
      simp [am, this]
    · by_cases h2 : p = 36 ∧ a = 123
      · refine go d (by simpa [am, h1, h2] using h) ?_
        intro m _
        simp [am, h2]
      · by_cases h3 : 0 < d
        · refine go (if a = 125 then d - 1 else d) (by simpa only [am, if_neg h1, if_neg h2, if_pos h3] using h) ?_
          intro m hm
          have := mt hm.2 h1
          simp only [am, if_neg this, if_neg h2, if_pos h3]
        · by_cases h4 : a = sep
          · simp only [am, if_neg h1, if_neg h2, if_neg h3, if_pos h4, Option.some.injEq] at h
            subst h4 h
            refine ⟨0, by omega, by simp, by simp, by simpa using h1, fun hp hd => ?_, by simp [am], fun u hu => ?_⟩
            · simp at hd; exact absurd ⟨hp, hd⟩ h2
            · simp only [Nat.zero_add, List.take_succ_cons, List.take_zero, List.cons_append, List.nil_append, am, if_neg hu, if_neg h2, if_neg h3, if_true]
          · refine go d (by simpa only [am, if_neg h1, if_neg h2, if_neg h3, if_neg h4] using h) ?_
            intro m hm
            have := mt hm.2 h1
            simp only [am, if_neg this, if_neg h2, if_neg h3, if_neg h4]

/-- Does an expression open here? -/
def opn (l : List UInt8) : Bool := l.head? == some 36 && l.tail.head? == some 123

theorem opn_true {l : List UInt8} (h : opn l = true) : ∃ r, l = 36 :: 123 :: r := by
  match l with
  | [] => simp [opn] at h
  | [a] => simp [opn] at h
  | a :: b :: r => simp [opn] at h; exact ⟨r, by rw [h.1, h.2]⟩

theorem opn_false {a : UInt8} {l : List UInt8} (h : opn (a :: l) = false) : ¬ (a = 36 ∧ l.head? = some 123) := by
  rintro ⟨rfl, hl⟩
  simp [opn, hl] at h

theorem opn_take (l : List UInt8) : (decide (2 ≤ l.length) && (l.take 2 == [36, 123])) = opn l := by
  match l with
  | [] => rfl
  | [a] => simp [opn]
  | a :: b :: r => simp [opn]

end Go.Proofs.Qxb6603098aMods.Plain
