/- A law on a region that draws its order: its head only reads, in whatever order; its tail hangs on the head, and of the tail only plain copies may change places. -/
import Derived.StillTail
namespace Go.Proofs.Qxb6605174aMods.Law
open Go

section
variable {P : Program} {ops : Array Oper} {md : Region.Mode} {w : World}

/-- A copy of a slot's value, or a part of a tuple: it looks at no world. -/
def plainB (o : Oper) : Bool :=
  o.guard.isNone && (match o.op with | .move _ => true | .assign _ => true | .extract _ _ => true | _ => false)

theorem ev_pure {α : Type} (x : α) (w : World) : Sem.events P (pure x : Sem α) w #[] = #[] := rfl
theorem ev_stuck {α : Type} (m : String) (f : Value → Sem α) (w : World) : Sem.events P ((stuck m : Sem Value) >>= f) w #[] = #[] := rfl
theorem none_asks {α : Type} (m : Sem α) (w : World) (h : Sem.events P m w #[] = #[]) (hin : noRoomEvent ∈ (m.runT P w #[]).2) : False := by
  have : noRoomEvent ∈ Sem.events P m w #[] := hin
  rw [h] at this
  simp at this

theorem plain_of_wp {o : Oper} {a : Act} {K : Act → World → Prop} {Q : Exit → Act → World → Prop} (h : plainB o = true) (hw : o.wp P a w K Q ∨ (o.asks P a w ∧ LetsOut Q)) :
    ∃ v, (∀ w', (execOp a.eval o).run P w' = .ok (.value v) w') ∧ K (a.put o.dst v) w := by
  obtain ⟨dst, op, ty, pos, after, guard⟩ := o
  cases op <;> simp only [plainB, Bool.and_false, Bool.false_eq_true, Bool.and_true] at h
  case move x =>
    refine ⟨a.eval x, fun w' => rfl, ?_⟩
    rcases hw with hw | hw
    · exact hw
    · exact (none_asks _ w (ev_pure _ w) hw.1.1).elim
  case assign x =>
    refine ⟨a.eval x, fun w' => rfl, ?_⟩
    rcases hw with hw | hw
    · exact hw
    · exact (none_asks _ w (ev_pure _ w) hw.1.1).elim
  case extract x i =>
    cases hx : a.eval x with
    | tuple vs =>
      cases hv : vs[i]? with
      | some v =>
        have e : ∀ w', (execOp a.eval { dst, op := .extract x i, type := ty, pos, after, guard }).run P w' = .ok (.value v) w' := fun w' => by
          simp [execOp, Instr.extract, hx, hv]
        refine ⟨v, e, ?_⟩
        rcases hw with hw | hw
        · unfold Oper.wp at hw; rw [e w] at hw; exact hw
        · exact (none_asks _ w (by simp only [execOp, Instr.extract, hx, hv]; rfl) hw.1.1).elim
      | none =>
        exfalso
        rcases hw with hw | hw
        · simp [Oper.wp, execOp, Instr.extract, hx, hv, Oper.upon] at hw
        · exact (none_asks _ w (by simp only [execOp, Instr.extract, hx, hv]; rfl) hw.1.1).elim
    | _ =>
      exfalso
      rcases hw with hw | hw
      · simp [Oper.wp, execOp, Instr.extract, hx, Oper.upon] at hw
      · exact (none_asks _ w (by simp only [execOp, Instr.extract, hx]; rfl) hw.1.1).elim

/-! ### the tail -/
def plainAt (ops : Array Oper) (k : Nat) : Bool := match ops[k]? with | some o => plainB o | none => false

/-- From place k on the text's order serves: each operation is the only one that may come up, or a plain copy that may be taken first. -/
def seqP (md : Region.Mode) (ops : Array Oper) : Nat → Nat → Array Bool → Bool
  | 0, _, listed => (Region.ready md ops listed).isEmpty
  | g + 1, k, listed =>
    (decide (Region.ready md ops listed = [k]) || (plainAt ops k && (Region.ready md ops listed).contains k && Region.free md ops listed k)) && seqP md ops g (k + 1) (listed.setIfInBounds k true)

theorem wpAny_of_seqP {Q' : Exit → Act → World → Prop} (hs : Region.noSelect ops = true) (hQ : ∀ c (a : Act) d v w, Q' (.panic c) (a.put d v) w → Q' (.panic c) a w) :
    ∀ (l : List Oper) (k : Nat) (listed : Array Bool) (a : Act) (w : World), (∀ j, l[j]? = ops[k + j]?) →
    seqP md ops l.length k listed = true → wpList P ops Q' l a w → wpAny P md ops Q' l.length listed a w
  | [], _, _, _, _, _, hB, h => ⟨by simpa [seqP] using hB, h⟩
  | o :: l, k, listed, a, w, hl, hB, h => by
    have h0 : ops[k]? = some o := by simpa using (hl 0).symm
    have hl' : ∀ j, l[j]? = ops[k + 1 + j]? := fun j => by have := hl (j + 1); simpa [Nat.add_assoc, Nat.add_comm 1 j] using this
    simp only [List.length_cons, seqP, Bool.and_eq_true, Bool.or_eq_true, decide_eq_true_eq] at hB
    obtain ⟨hB1, hB2⟩ := hB
    have hw : wpOp P ops Q' k (wpList P ops Q' l) a w := by unfold wpOp; simp only [h0]; exact h
    rcases hB1 with hr | ⟨⟨hp, hr⟩, hf⟩
    · refine ⟨fun h1 => (by rw [hr] at h1; cases h1), fun i hi => ?_⟩
      rw [hr] at hi
      have hik : i = k := by simpa using hi
      subst hik
      exact wpOp_mono (fun a' w' h' => wpAny_of_seqP hs hQ l (i + 1) _ a' w' hl' hB2 h') hw
    · have hp' : plainB o = true := by simpa [plainAt, h0] using hp
      have hg : o.guard = none := by
        simp only [plainB, Bool.and_eq_true, Option.isNone_iff_eq_none] at hp'
        exact hp'.1
      have hwant : Region.wanted o (yielded ops a.tmps) = true := by simp [Region.wanted, hg]
      unfold wpOp at hw
      simp only [h0, hwant, if_true] at hw
      obtain ⟨v, hv, hK⟩ := plain_of_wp hp' hw
      exact wpAny_take h0 hs hf hr (fun c a w => hQ c a _ _ w) (.inl ⟨hwant, hv⟩) (wpAny_of_seqP hs hQ l (k + 1) _ _ w hl' hB2 hK)

/-! ### the head -/
/-- Every operation behind n waits for one of the tail. -/
def chainP (md : Region.Mode) (ops : Array Oper) (n : Nat) : Bool :=
  (List.range ops.size).all fun t => decide (t ≤ n) || (List.range t).any fun s => decide (n ≤ s) && Region.waitsFor md ops t s

theorem waits {n : Nat} {listed : Array Bool} (hs : Region.sinkB md ops n = true) (hc : chainP md ops n = true) (inv : HeadInv md ops n listed) :
    ∀ (d i : Nat), n - i = d → i < n → listed.getD i true = false → ∀ t, n ≤ t → t ∉ Region.ready md ops listed := by
  intro d
  induction d using Nat.strongRecOn with
  | _ d ih =>
    intro i hd hi hun t ht hr
    obtain ⟨_, ot, hot, hall⟩ := mem_ready.1 hr
    have htlt : t < ops.size := (Array.getElem?_eq_some_iff.1 hot).1
    by_cases htn : t = n
    · subst htn
      obtain ⟨j, hj, hj2⟩ := List.any_eq_true.1 (List.all_eq_true.1 hs i (List.mem_range.2 hi))
      simp only [Bool.and_eq_true, decide_eq_true_eq] at hj2
      obtain ⟨oj, hoj, e, he, hb, hon⟩ := Region.waitsFor_spec hj2.2
      have hjle : j ≤ t := by have := List.mem_range.1 hj; omega
      by_cases hjt : j = t
      · subst hjt
        obtain rfl : oj = ot := Option.some.inj (hoj.symm.trans hot)
        have h2 := hall e he hb
        rw [hon, getD_both hun] at h2
        cases h2
      · cases hl : listed.getD j false with
        | true =>
          have h2 := inv.closed j oj hoj hl e he hb
          rw [hon, getD_both hun] at h2
          cases h2
        | false => exact ih (t - j) (by omega) j rfl (by omega) (getD_in (by rw [inv.size]; omega) hl) t (Nat.le_refl _) hr
    · have h1 := List.all_eq_true.1 hc t (List.mem_range.2 htlt)
      simp only [Bool.or_eq_true, decide_eq_true_eq] at h1
      rcases h1 with h1 | h1
      · omega
      · obtain ⟨s, hs1, hs2⟩ := List.any_eq_true.1 h1
        simp only [Bool.and_eq_true, decide_eq_true_eq] at hs2
        obtain ⟨o', ho', e, he, hb, hon⟩ := Region.waitsFor_spec hs2.2
        obtain rfl : o' = ot := Option.some.inj (ho'.symm.trans hot)
        have h2 := hall e he hb
        rw [hon, getD_both (inv.tail s hs2.1 (by have := List.mem_range.1 hs1; omega))] at h2
        cases h2

theorem head_first {n i : Nat} {oi : Oper} {v : Value} {L : Array Bool → Act → Prop} (hi : ops[i]? = some oi) (hsel : ∀ (j : Nat) (o : Oper) cs b, ops[j]? = some o → o.op ≠ .select cs b)
    (hs : Region.sinkB md ops n = true) (hc : chainP md ops n = true) (hin : i < n)
    (hdone : ∀ listed a, L listed a → ∀ j ∈ Region.ready md ops listed, n ≤ j) :
    ∀ (f : Nat) (listed : Array Bool) (a : Act), HeadInv md ops n listed →
      (∀ j oj, ops[j]? = some oj → j ≠ i → listed.getD j true = false → (∀ e ∈ oj.after, Region.binds md e = true → e.on ≠ i) → oi.apart ops oj = true) →
      i ∈ Region.ready md ops listed → YieldsAt P ops w oi v a →
      wpAnyL P md ops w n L f (listed.setIfInBounds i true) (a.put oi.dst v) → wpAnyL P md ops w n L (f + 1) listed a := by
  intro f
  induction f with
  | zero =>
    intro listed a inv _ hr hy H
    refine ⟨fun h => (by rw [h] at hr; cases hr), fun j hj => ?_⟩
    have hjn : j < n := Nat.lt_of_not_le fun h => waits hs hc inv _ i rfl hin (mem_ready.1 hr).1 j h hj
    refine ⟨hjn, ?_⟩
    by_cases hji : j = i
    · subst hji; exact hy.stOp hi H
    · have := hdone _ _ H j (ready_mono hj hji)
      omega
  | succ f ih =>
    intro listed a inv hfree hr hy H
    have hun := (mem_ready.1 hr).1
    refine ⟨fun h => (by rw [h] at hr; cases hr), fun j hj => ?_⟩
    have hjn : j < n := Nat.lt_of_not_le fun h => waits hs hc inv _ i rfl hin hun j h hj
    refine ⟨hjn, ?_⟩
    by_cases hji : j = i
    · subst hji; exact hy.stOp hi H
    · obtain ⟨hjun, oj, hoj, hall⟩ := mem_ready.1 hj
      have hnot : ∀ e ∈ oj.after, Region.binds md e = true → e.on ≠ i := fun e he hb heq => by
        have h1 := hall e he hb
        rw [heq, getD_both hun] at h1
        cases h1
      have h2 := stOp_put hoj (hfree j oj hoj hji hjun hnot) (fun cs b => hsel i oi cs b hi) (fun cs b => hsel j oj cs b hoj) hy (H.2 j (ready_mono hj hji)).2
      refine stOp_mono (fun a' h3 => ih (listed.setIfInBounds j true) a' (inv.set hj hjn) (fun k ok hk hki hun hno => ?_) (ready_mono hr (Ne.symm hji)) h3.1 ?_) h2
      · refine hfree k ok hk hki ?_ hno
        by_cases hjk : j = k
        · subst hjk; exact hjun
        · rw [getD_set_ne true hjk] at hun; exact hun
      · rw [Array.setIfInBounds_comm _ _ hji]
        exact h3.2

/-- The text's order serves for the head, and behind it for the tail. -/
def headB (md : Region.Mode) (ops : Array Oper) (g : Nat) : Nat → Nat → Array Bool → Bool
  | 0, k, listed => seqP md ops g k listed && (Region.ready md ops listed).all fun j => decide (k ≤ j)
  | f + 1, k, listed => (Region.ready md ops listed).contains k && Region.free md ops listed k && headB md ops g f (k + 1) (listed.setIfInBounds k true)

theorem head_lex {n g : Nat} {Lq : Act → Prop} (hsel : Region.noSelect ops = true) (hs : Region.sinkB md ops n = true) (hc : chainP md ops n = true) :
    ∀ (l : List Oper) (k : Nat) (listed : Array Bool) (a : Act), (∀ j, j < l.length → l[j]? = ops[k + j]?) → k + l.length = n → HeadInv md ops n listed →
    headB md ops g l.length k listed = true → wpStill P ops w Lq l a →
    wpAnyL P md ops w n (fun listed' a' => (seqP md ops g n listed' = true ∧ ∀ j ∈ Region.ready md ops listed', n ≤ j) ∧ Lq a') l.length listed a
  | [], k, listed, a, _, hk, _, hB, h => by
    obtain rfl : k = n := by simpa using hk
    simp only [List.length_nil, headB, Bool.and_eq_true, List.all_eq_true, decide_eq_true_eq] at hB
    exact ⟨hB, h⟩
  | o :: l, k, listed, a, hl, hk, inv, hB, h => by
    have h0 : ops[k]? = some o := by simpa using (hl 0 (by simp)).symm
    simp only [List.length_cons, headB, Bool.and_eq_true] at hB
    obtain ⟨⟨hr, hf⟩, hB'⟩ := hB
    have hkn : k < n := by simp only [List.length_cons] at hk; omega
    have hr' : k ∈ Region.ready md ops listed := by simpa using hr
    have hst : stOp P ops w k (wpStill P ops w Lq l) a := by unfold stOp; simp only [h0]; exact h
    obtain ⟨v, hy, hK⟩ := yieldsAt_of_stOp h0 hst
    exact head_first h0 (Region.noSelect_spec hsel) hs hc hkn (fun listed' a' hL => hL.1.2) l.length listed a inv (Region.free_spec h0 hf) hr' hy
      (head_lex hsel hs hc l (k + 1) _ _ (fun j hj => by have := hl (j + 1) (by simp; omega); simpa [Nat.add_assoc, Nat.add_comm 1 j] using this) (by simp only [List.length_cons] at hk; omega) (inv.set hr' hkn) hB' hK)

def fitsB (ops : Array Oper) (n : Nat) : Bool :=
  Region.noSelect ops && decide (n < ops.size) && Region.sinkB .any ops n && chainP .any ops n && headB .any ops (ops.size - n) n 0 (Array.replicate ops.size false)

/-- THE LAW: the head's reads, then the tail, in the text's order. -/
theorem region_head_tail {id : Nat} {Q : Exit → Act → World → Prop} {a : Act} {w : World} {l : List Oper} (n : Nat) (hm : P.follows .mixedOrders = true) (hB : fitsB l.toArray n = true)
    (hQ : ∀ c (a : Act) d v w, Q (.panic c) (a.put d v) w → Q (.panic c) a w)
    (h : wpStill P l.toArray w.drew (fun a' => wpList P l.toArray Q (l.drop n) a' w.drew) (l.take n) a) : (Code.region id l.toArray true).wp P Q a w := by
  simp only [fitsB, Bool.and_eq_true, decide_eq_true_eq] at hB
  obtain ⟨⟨⟨⟨hsel, hn⟩, hs⟩, hc⟩, hlex⟩ := hB
  have htl : (l.take n).length = n := by simp at hn ⊢; omega
  have hdl : (l.drop n).length = l.toArray.size - n := by simp
  have inv0 : HeadInv .any l.toArray n (Array.replicate l.toArray.size false) :=
    ⟨by simp, fun j oj _ hl => (by rw [getD_replicate_false] at hl; cases hl), fun t _ ht => getD_in (by simpa using ht) (getD_replicate_false _ _)⟩
  have H := head_lex (md := .any) (g := l.toArray.size - n) hsel hs hc (l.take n) 0 _ a (fun j hj => by
    have hj' : j < n := by rw [htl] at hj; exact hj
    simp [hj']) (by simpa using htl) inv0 (by rw [htl]; exact hlex) h
  refine wp_region_any hm ?_
  have := wpAny_of_head (Q' := Q) (g := l.toArray.size - n) (fun listed a' hL => by
    have := wpAny_of_seqP (md := .any) (Q' := Q) hsel hQ (l.drop n) n listed a' w.drew (fun j => by simp [List.getElem?_drop]) (by rw [hdl]; exact hL.1.1) hL.2
    rwa [hdl] at this) _ _ _ H
  rw [htl, show n + (l.toArray.size - n) = l.toArray.size by omega] at this
  exact this
end
end Go.Proofs.Qxb6605174aMods.Law
