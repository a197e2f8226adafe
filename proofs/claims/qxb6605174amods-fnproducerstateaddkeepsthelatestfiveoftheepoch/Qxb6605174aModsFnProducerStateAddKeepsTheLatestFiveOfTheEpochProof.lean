/- The law FnProducerStateAddKeepsTheLatestFiveOfTheEpoch: the row's frame, after the guide's way, over the walk. -/
import Derived.Test.Qxb6605174aModsRows
import Derived.WalkKit
import Derived.ProofKit
import Derived.OpenShut
import Derived.ChangeOld
import Derived.Below
import Derived.Test.Qxb6605174aModsKeepsAll
namespace Go.Proofs.Qxb6605174aMods.fnProducerStateAddKeepsTheLatestFiveOfTheEpoch
open Go.ChangeShapes Go.WideShapes Go.ChangeAt Go.RowKit
set_option linter.unusedVariables false

theorem own : ownKnob Trym.prog.godebug = none := by kernel_rfl
theorem laidOut : laidOutB Trym.prog = true := by kernel_rfl

/-- An array of five integers that came in by value. -/
theorem open_arr5 {H : Type} {enc : TypeId × Value → H} {P : Program} {w : World} {base : Nat} {spare : Nat → Bool} {held : Bool} {r : Reach} {b0 : Nat} {t e : TypeId} {k : IntKind} {v : Value} {d : DataW H} {p : List MemPlace}
    (ht : P.underlying t = some (.array 5 e)) (he : P.underlying e = some (.int k)) (hce : P.cellsOf e = 1) (hC : P.cellsOf t = 5)
    (hv : Value.okWide P w r b0 t v) (h : DataW.Trod enc P w base spare held t v d p) :
    ∃ n0 n1 n2 n3 n4 : Int, v = .agg #[.int k n0, .int k n1, .int k n2, .int k n3, .int k n4] := by
  simp only [Value.okWide, ht] at hv
  obtain ⟨cs, rfl, hsz, _⟩ := hv
  rw [hC] at hsz
  obtain ⟨fuel, hf⟩ := h
  obtain ⟨xs, m, _, _, _, hl, hi⟩ := DataW.trod_array ht hf
  have at_ : ∀ i, i < 5 → ∃ n, cs[i]? = some (.int k n) := by
    intro i hlt
    have h1 := hi i hlt
    rw [List.getElem?_eq_getElem (by omega)] at h1
    obtain ⟨n, hn, _, _⟩ := DataW.trod_int he h1
    rw [hce] at hn
    refine ⟨n, ?_⟩
    have h2 : (((Value.agg cs).cells.toList.drop (i * 1)).take 1)[0]? = some (.int k n) := by rw [hn]; rfl
    rw [List.getElem?_take, if_pos (by omega), List.getElem?_drop] at h2
    simpa [Value.cells] using h2
  obtain ⟨n0, e0⟩ := at_ 0 (by omega)
  obtain ⟨n1, e1⟩ := at_ 1 (by omega)
  obtain ⟨n2, e2⟩ := at_ 2 (by omega)
  obtain ⟨n3, e3⟩ := at_ 3 (by omega)
  obtain ⟨n4, e4⟩ := at_ 4 (by omega)
  refine ⟨n0, n1, n2, n3, n4, ?_⟩
  congr 1
  apply Array.ext_getElem?
  intro i
  match i with
  | 0 => exact e0
  | 1 => exact e1
  | 2 => exact e2
  | 3 => exact e3
  | 4 => exact e4
  | i + 5 => rw [Array.getElem?_eq_none (by omega), Array.getElem?_eq_none (by simp)]

/-! ### THE ROW's STEP -/
set_option maxRecDepth 100000 in
set_option maxHeartbeats 2000000 in
theorem lifted (os : Os) (started : os.Started) (H : Type) (enc : TypeId × Value → H) :
    ReturnsInHanded {} Trym.checked os 5 .any (Rows.fnProducerStateAddKeepsTheLatestFiveOfTheEpochSpec.pre6 enc Trym.prog Trym.f5 Rows.fnProducerStateAddKeepsTheLatestFiveOfTheEpochRow.domain false) (Rows.fnProducerStateAddKeepsTheLatestFiveOfTheEpochSpec.post enc Trym.prog Trym.f5 false true false false) := by
  refine returnsInHanded_of_change (C := Trym.checked) own started (by kernel_rfl) Trym.func5
    (ChangeSpec.witness6 (enc := enc) (C := Trym.checked) false ⟨#[], #[.int .i16 0, .int .i8 0, .agg #[.int .i32 0, .int .i32 0, .int .i32 0, .int .i32 0, .int .i32 0], .agg #[.int .i32 0, .int .i32 0, .int .i32 0, .int .i32 0, .int .i32 0], .agg #[.int .i64 0, .int .i64 0, .int .i64 0, .int .i64 0, .int .i64 0], .int .i64 0, .int .i16 0, .int .i32 0, .int .i32 0, .int .i64 0, .int .i64 0], []⟩ 8 (by kernel_rfl) (by kernel_rfl) (by kernel_rfl) (by kernel_rfl)) ?_
  intro W base args ds gs before hval0 hW hcnd _
  have hval : ∀ (j : Nat) t v, Trym.f5.params[j]? = some t → args[j]? = some v → Value.okWide Trym.prog W .any base t v := hval0
  have hW' := hW
  obtain ⟨p, q, hA0, hV, rfl, hfz, hnd⟩ := hW
  have hA : DataW.TrodAll enc Trym.prog W 0 (fun _ => true) true Trym.f5.params.toList args.toList ds p := hA0
  rw [Trym.params5] at hA hval
  obtain ⟨v0, vs0, d0, ds0, p0, q0, hargs, rfl, rfl, h0, rr0⟩ := trodAll_cons hA
  obtain ⟨v1, vs1, d1, ds1, p1, q1, rfl, rfl, rfl, h1, rr1⟩ := trodAll_cons rr0
  obtain ⟨v2, vs2, d2, ds2, p2, q2, rfl, rfl, rfl, h2, rr2⟩ := trodAll_cons rr1
  obtain ⟨v3, vs3, d3, ds3, p3, q3, rfl, rfl, rfl, h3, rr3⟩ := trodAll_cons rr2
  obtain ⟨v4, vs4, d4, ds4, p4, q4, rfl, rfl, rfl, h4, rr4⟩ := trodAll_cons rr3
  obtain ⟨v5, vs5, d5, ds5, p5, q5, rfl, rfl, rfl, h5, rr5⟩ := trodAll_cons rr4
  obtain ⟨v6, vs6, d6, ds6, p6, q6, rfl, rfl, rfl, h6, rr6⟩ := trodAll_cons rr5
  obtain ⟨v7, vs7, d7, ds7, p7, q7, rfl, rfl, rfl, h7, rr7⟩ := trodAll_cons rr6
  obtain ⟨v8, vs8, d8, ds8, p8, q8, rfl, rfl, rfl, h8, rr8⟩ := trodAll_cons rr7
  obtain ⟨v9, vs9, d9, ds9, p9, q9, rfl, rfl, rfl, h9, rr9⟩ := trodAll_cons rr8
  obtain ⟨v10, vs10, d10, ds10, p10, q10, rfl, rfl, rfl, h10, rr10⟩ := trodAll_cons rr9
  obtain ⟨rfl, rfl, rfl⟩ := trodAll_nil rr10
  obtain rfl : args = #[v0, v1, v2, v3, v4, v5, v6, v7, v8, v9, v10] := by cases args; simp_all
  obtain ⟨rfl, rfl⟩ := trodVars_none hV
  have k0 := h0
  have lt0 : ∀ x ∈ p0, x.block < W.heap.size := by obtain ⟨m, hm⟩ := k0; exact DataW.trod_lt m _ _ _ hm
  obtain ⟨e, rfl⟩ := okWide_int Trym.underlying29 (hval 0 29 v0 rfl rfl)
  have k1 := h1
  have lt1 : ∀ x ∈ p1, x.block < W.heap.size := by obtain ⟨m, hm⟩ := k1; exact DataW.trod_lt m _ _ _ hm
  obtain ⟨n, rfl⟩ := okWide_int Trym.underlying30 (hval 1 30 v1 rfl rfl)
  have k2 := h2
  have lt2 : ∀ x ∈ p2, x.block < W.heap.size := by obtain ⟨m, hm⟩ := k2; exact DataW.trod_lt m _ _ _ hm
  obtain ⟨s0, s1, s2, s3, s4, rfl⟩ := open_arr5 Trym.underlying31 Trym.underlying21 (by kernel_rfl) (by kernel_rfl) (hval 2 31 v2 rfl rfl) h2
  have k3 := h3
  have lt3 : ∀ x ∈ p3, x.block < W.heap.size := by obtain ⟨m, hm⟩ := k3; exact DataW.trod_lt m _ _ _ hm
  obtain ⟨r0, r1, r2, r3, r4, rfl⟩ := open_arr5 Trym.underlying31 Trym.underlying21 (by kernel_rfl) (by kernel_rfl) (hval 3 31 v3 rfl rfl) h3
  have k4 := h4
  have lt4 : ∀ x ∈ p4, x.block < W.heap.size := by obtain ⟨m, hm⟩ := k4; exact DataW.trod_lt m _ _ _ hm
  obtain ⟨o0, o1, o2, o3, o4, rfl⟩ := open_arr5 Trym.underlying32 Trym.underlying2 (by kernel_rfl) (by kernel_rfl) (hval 4 32 v4 rfl rfl) h4
  have k5 := h5
  have lt5 : ∀ x ∈ p5, x.block < W.heap.size := by obtain ⟨m, hm⟩ := k5; exact DataW.trod_lt m _ _ _ hm
  obtain ⟨la, rfl⟩ := okWide_int Trym.underlying2 (hval 5 2 v5 rfl rfl)
  have k6 := h6
  have lt6 : ∀ x ∈ p6, x.block < W.heap.size := by obtain ⟨m, hm⟩ := k6; exact DataW.trod_lt m _ _ _ hm
  obtain ⟨he, rfl⟩ := okWide_int Trym.underlying29 (hval 6 29 v6 rfl rfl)
  have k7 := h7
  have lt7 : ∀ x ∈ p7, x.block < W.heap.size := by obtain ⟨m, hm⟩ := k7; exact DataW.trod_lt m _ _ _ hm
  obtain ⟨hs, rfl⟩ := okWide_int Trym.underlying21 (hval 7 21 v7 rfl rfl)
  have k8 := h8
  have lt8 : ∀ x ∈ p8, x.block < W.heap.size := by obtain ⟨m, hm⟩ := k8; exact DataW.trod_lt m _ _ _ hm
  obtain ⟨hr, rfl⟩ := okWide_int Trym.underlying21 (hval 8 21 v8 rfl rfl)
  have k9 := h9
  have lt9 : ∀ x ∈ p9, x.block < W.heap.size := by obtain ⟨m, hm⟩ := k9; exact DataW.trod_lt m _ _ _ hm
  obtain ⟨bo, rfl⟩ := okWide_int Trym.underlying2 (hval 9 2 v9 rfl rfl)
  have k10 := h10
  have lt10 : ∀ x ∈ p10, x.block < W.heap.size := by obtain ⟨m, hm⟩ := k10; exact DataW.trod_lt m _ _ _ hm
  obtain ⟨at_, rfl⟩ := okWide_int Trym.underlying2 (hval 10 2 v10 rfl rfl)
  clear hA0 hval0
  refine (Add.keeps W e n s0 s1 s2 s3 s4 r0 r1 r2 r3 r4 o0 o1 o2 o3 o4 la he hs hr bo at_).mono fun en W' ⟨hen, bel⟩ => ?_
  subst hen
  exact ⟨_, rfl, _, _, _, [], _, [], hW', trodAll_mk1 (shut_bool Trym.underlying4 _), (trodAll_cons_mk (Below.trod laidOut (by kernel_rfl) (of_decide_eq_true (by kernel_rfl)) k0 bel lt0) (trodAll_cons_mk (Below.trod laidOut (by kernel_rfl) (of_decide_eq_true (by kernel_rfl)) k1 bel lt1) (trodAll_cons_mk (Below.trod laidOut (by kernel_rfl) (of_decide_eq_true (by kernel_rfl)) k2 bel lt2) (trodAll_cons_mk (Below.trod laidOut (by kernel_rfl) (of_decide_eq_true (by kernel_rfl)) k3 bel lt3) (trodAll_cons_mk (Below.trod laidOut (by kernel_rfl) (of_decide_eq_true (by kernel_rfl)) k4 bel lt4) (trodAll_cons_mk (Below.trod laidOut (by kernel_rfl) (of_decide_eq_true (by kernel_rfl)) k5 bel lt5) (trodAll_cons_mk (Below.trod laidOut (by kernel_rfl) (of_decide_eq_true (by kernel_rfl)) k6 bel lt6) (trodAll_cons_mk (Below.trod laidOut (by kernel_rfl) (of_decide_eq_true (by kernel_rfl)) k7 bel lt7) (trodAll_cons_mk (Below.trod laidOut (by kernel_rfl) (of_decide_eq_true (by kernel_rfl)) k8 bel lt8) (trodAll_cons_mk (Below.trod laidOut (by kernel_rfl) (of_decide_eq_true (by kernel_rfl)) k9 bel lt9) (trodAll_cons_mk (Below.trod laidOut (by kernel_rfl) (of_decide_eq_true (by kernel_rfl)) k10 bel lt10) trodAll_mk0))))))))))), rfl, bel.frame _, fun h => by cases h⟩

theorem over : Rows.fnProducerStateAddKeepsTheLatestFiveOfTheEpochRow.holds Trym.pinned (OpenSpec.ofChange Rows.fnProducerStateAddKeepsTheLatestFiveOfTheEpochSpec) :=
  OpenClaim.holds_of_wide 5 Trym.f5 rfl rfl rfl rfl rfl rfl rfl ⟨rfl, rfl, rfl, rfl, rfl⟩ rfl rfl rfl rfl rfl (by kernel_rfl) Trym.func5 (by kernel_rfl)
    (of_decide_eq_true (by kernel_rfl)) (by unfold Func.isWrapper; first | (rw [if_pos (by decide +kernel)]; kernel_rfl) | (rw [if_neg (by decide +kernel)]; exact ⟨rfl, rfl⟩))
    (fun os started H enc _ => lifted os started H enc)

/-- THE STATEMENT -/
theorem proved : Rows.FnProducerStateAddKeepsTheLatestFiveOfTheEpochSaid := over
#print axioms proved
end Go.Proofs.Qxb6605174aMods.fnProducerStateAddKeepsTheLatestFiveOfTheEpoch
