/-
  A PROOF OF 'Rows.FnPointTreeRankCountsEntriesBelowSaid': the frame after the shell of this seat's ring law (proof-skeleton.mjs' way), typed by hand for arrays by value.
-/
import Derived.Test.Qxb6604322aRows
import Derived.WalkKit
import Derived.ProofKit
import Derived.OpenShut
import Derived.ShutString
import Derived.ChangeOld
import Derived.Below
import Derived.Test.Qxb6604322aTreeK
import Derived.Test.Qxb6604322aTreeL
namespace Go.Proofs.Qxb6604322a.fnPointTreeRankCountsEntriesBelow
open Go.ChangeShapes Go.WideShapes Go.ChangeAt Go.RowKit
open Go.ChangeMaps (open_string shut_string)
open Go.Proofs.Qxb6604322a.Tree
set_option linter.unusedVariables false

theorem own : ownKnob Try.prog.godebug = none := by kernel_rfl
theorem laidOut : laidOutB Try.prog = true := by kernel_rfl
theorem cells3 : Try.prog.cellsOf 3 = 1 := by kernel_rfl
theorem cells21 : Try.prog.cellsOf 21 = 1 := by kernel_rfl
theorem cells26 : Try.prog.cellsOf 26 = 1 := by kernel_rfl
theorem cells27 : Try.prog.cellsOf 27 = 16 := by kernel_rfl
theorem cells28 : Try.prog.cellsOf 28 = 16 := by kernel_rfl
theorem cells29 : Try.prog.cellsOf 29 = 1 := by kernel_rfl
theorem cells30 : Try.prog.cellsOf 30 = 16 := by kernel_rfl
theorem cells31 : Try.prog.cellsOf 31 = 16 := by kernel_rfl
theorem cells32 : Try.prog.cellsOf 32 = 256 := by kernel_rfl
theorem cells33 : Try.prog.cellsOf 33 = 256 := by kernel_rfl

theorem okWide_array {P : Program} {w : World} {r : Reach} {b0 : Nat} {t e : TypeId} {n : Nat} {v : Value} (ht : P.underlying t = some (.array n e)) (h : Value.okWide P w r b0 t v) : ∃ cs, v = .agg cs ∧ cs.size = P.cellsOf t := by
  unfold Value.okWide at h
  simp only [ht] at h
  obtain ⟨cs, h1, h2, _⟩ := h
  exact ⟨cs, h1, h2⟩

/-- The walk, of the arguments as they are opened. -/
theorem walk (x count s : Int) (low : Bool) (AV NV LV SV BV CV : Array Value) (W : World) (i1 : Ints .u64 AV 16 (numAt AV.toList)) (i2 : Ints .i32 NV 16 (numAt NV.toList)) (w2 : ∀ i, (Lit.int .i32 (numAt NV.toList i)).wf = true)
    (L : Nat → List Int) (a3 : Arr W LV 16 L) (b3 : ∀ i, (L i).length ≤ 9223372036854775807) (i4 : Ints .i64 SV 16 (numAt SV.toList)) (w4 : ∀ i, (Lit.int .i64 (numAt SV.toList i)).wf = true) (i5 : Ints .u64 BV 256 (numAt BV.toList))
    (D : Nat → List Int) (a6 : Arr W CV 256 D) (b6 : ∀ i, (D i).length ≤ 9223372036854775807) (ws : (Lit.int .i64 s).wf = true) :
    Calls Try.prog 5 #[.int .u64 x, .int .i64 count, .int .i64 s, .bool low, .agg AV, .agg NV, .agg LV, .agg SV, .agg BV, .agg CV] W fun e w' => e = .returned (.bool true) ∧ Below W.heap.size W w' := by
  have hs := bounds_i64 ws
  have e5 : (fun q => (fun i j => numAt BV.toList (i * 16 + j)) (q / 16) (q % 16)) = numAt BV.toList := by
    funext q
    show numAt BV.toList (q / 16 * 16 + q % 16) = _
    rw [show q / 16 * 16 + q % 16 = q from by omega]
  have e6 : (fun q => (fun i j => D (i * 16 + j)) (q / 16) (q % 16)) = D := by
    funext q
    show D (q / 16 * 16 + q % 16) = _
    rw [show q / 16 * 16 + q % 16 = q from by omega]
  refine law_any x count s low AV NV LV SV BV CV (numAt AV.toList) (numAt NV.toList) L (numAt SV.toList) (fun i j => numAt BV.toList (i * 16 + j)) (fun i j => D (i * 16 + j)) W i1 i2 a3 i4 ?_ ?_ hs.1 hs.2 (fun i => bounds_i64 (w4 i)) (fun i => bounds_i32 (w2 i)) b3 (fun i j => b6 _)
  · rw [e5]; exact i5
  · rw [e6]; exact a6

set_option maxRecDepth 100000 in
theorem lifted (os : Os) (started : os.Started) (H : Type) (enc : TypeId × Value → H) :
    ReturnsInHanded {} Try.checked os 5 .any (Rows.fnPointTreeRankCountsEntriesBelowSpec.pre6 enc Try.prog Try.f5 Rows.fnPointTreeRankCountsEntriesBelowRow.domain false) (Rows.fnPointTreeRankCountsEntriesBelowSpec.post enc Try.prog Try.f5 false true false false) := by
  refine returnsInHanded_of_change (C := Try.checked) own started (by kernel_rfl) Try.func5
    (ChangeSpec.witness6 (enc := enc) (C := Try.checked) false ⟨#[], #[.int .u64 0, .int .i64 0, .int .i64 0, .bool false, .agg (Array.replicate 16 (.int .u64 0)), .agg (Array.replicate 16 (.int .i32 0)), .agg (Array.replicate 16 (.slice none 0 0)), .agg (Array.replicate 16 (.int .i64 0)), .agg (Array.replicate 256 (.int .u64 0)), .agg (Array.replicate 256 (.slice none 0 0))], []⟩ 8 (by kernel_rfl) (by kernel_rfl) (by kernel_rfl) (by kernel_rfl)) ?_
  intro W base args ds gs before hval0 hW hcnd _
  have hval : ∀ (j : Nat) t v, Try.f5.params[j]? = some t → args[j]? = some v → Value.okWide Try.prog W .any base t v := hval0
  have hW' := hW
  obtain ⟨p, q, hA0, hV, rfl, hfz, hnd⟩ := hW
  have hA : DataW.TrodAll enc Try.prog W 0 (fun _ => true) true Try.f5.params.toList args.toList ds p := hA0
  rw [Try.params5] at hA hval
  obtain ⟨v0, vs0, d0, ds0, p0, q0, hargs, rfl, rfl, h0, r0⟩ := trodAll_cons hA
  obtain ⟨v1, vs1, d1, ds1, p1, q1, rfl, rfl, rfl, h1, r1⟩ := trodAll_cons r0
  obtain ⟨v2, vs2, d2, ds2, p2, q2, rfl, rfl, rfl, h2, r2⟩ := trodAll_cons r1
  obtain ⟨v3, vs3, d3, ds3, p3, q3, rfl, rfl, rfl, h3, r3⟩ := trodAll_cons r2
  obtain ⟨v4, vs4, d4, ds4, p4, q4, rfl, rfl, rfl, h4, r4⟩ := trodAll_cons r3
  obtain ⟨v5, vs5, d5, ds5, p5, q5, rfl, rfl, rfl, h5, r5⟩ := trodAll_cons r4
  obtain ⟨v6, vs6, d6, ds6, p6, q6, rfl, rfl, rfl, h6, r6⟩ := trodAll_cons r5
  obtain ⟨v7, vs7, d7, ds7, p7, q7, rfl, rfl, rfl, h7, r7⟩ := trodAll_cons r6
  obtain ⟨v8, vs8, d8, ds8, p8, q8, rfl, rfl, rfl, h8, r8⟩ := trodAll_cons r7
  obtain ⟨v9, vs9, d9, ds9, p9, q9, rfl, rfl, rfl, h9, r9⟩ := trodAll_cons r8
  obtain ⟨rfl, rfl, rfl⟩ := trodAll_nil r9
  obtain rfl : args = #[v0, v1, v2, v3, v4, v5, v6, v7, v8, v9] := by cases args; simp_all
  obtain ⟨rfl, rfl⟩ := trodVars_none hV
  obtain ⟨a0, rfl, rfl, rfl, w0⟩ := open_int Try.underlying26 (hval 0 26 v0 rfl rfl) h0
  obtain ⟨a1, rfl, rfl, rfl, w1⟩ := open_int Try.underlying3 (hval 1 3 v1 rfl rfl) h1
  obtain ⟨a2, rfl, rfl, rfl, w2⟩ := open_int Try.underlying3 (hval 2 3 v2 rfl rfl) h2
  obtain ⟨a3, rfl, rfl, rfl⟩ := open_bool Try.underlying4 (hval 3 4 v3 rfl rfl) h3
  obtain ⟨A4, rfl, z4⟩ := okWide_array Try.underlying27 (hval 4 27 v4 rfl rfl)
  have k4 := h4
  have lt4 : ∀ x ∈ p4, x.block < W.heap.size := by obtain ⟨m, hm⟩ := k4; exact DataW.trod_lt m _ _ _ hm
  obtain ⟨A5, rfl, z5⟩ := okWide_array Try.underlying28 (hval 5 28 v5 rfl rfl)
  have k5 := h5
  have lt5 : ∀ x ∈ p5, x.block < W.heap.size := by obtain ⟨m, hm⟩ := k5; exact DataW.trod_lt m _ _ _ hm
  obtain ⟨A6, rfl, z6⟩ := okWide_array Try.underlying30 (hval 6 30 v6 rfl rfl)
  have k6 := h6
  have lt6 : ∀ x ∈ p6, x.block < W.heap.size := by obtain ⟨m, hm⟩ := k6; exact DataW.trod_lt m _ _ _ hm
  obtain ⟨A7, rfl, z7⟩ := okWide_array Try.underlying31 (hval 7 31 v7 rfl rfl)
  have k7 := h7
  have lt7 : ∀ x ∈ p7, x.block < W.heap.size := by obtain ⟨m, hm⟩ := k7; exact DataW.trod_lt m _ _ _ hm
  obtain ⟨A8, rfl, z8⟩ := okWide_array Try.underlying32 (hval 8 32 v8 rfl rfl)
  have k8 := h8
  have lt8 : ∀ x ∈ p8, x.block < W.heap.size := by obtain ⟨m, hm⟩ := k8; exact DataW.trod_lt m _ _ _ hm
  obtain ⟨A9, rfl, z9⟩ := okWide_array Try.underlying33 (hval 9 33 v9 rfl rfl)
  have k9 := h9
  have lt9 : ∀ x ∈ p9, x.block < W.heap.size := by obtain ⟨m, hm⟩ := k9; exact DataW.trod_lt m _ _ _ hm
  have i4 : Ints .u64 A4 16 (numAt A4.toList) ∧ ∀ i, (Lit.int .u64 (numAt A4.toList i)).wf = true := by
    obtain ⟨fuel, hf⟩ := h4
    exact ints_of (z4.trans cells27) (open_nums Try.underlying27 Try.underlying26 cells26 hf)
  have i5 : Ints .i32 A5 16 (numAt A5.toList) ∧ ∀ i, (Lit.int .i32 (numAt A5.toList i)).wf = true := by
    obtain ⟨fuel, hf⟩ := h5
    exact ints_of (z5.trans cells28) (open_nums Try.underlying28 Try.underlying21 cells21 hf)
  obtain ⟨L, a6, b6⟩ : ∃ f : Nat → List Int, Arr W A6 16 f ∧ ∀ i, (f i).length ≤ 9223372036854775807 := by
    obtain ⟨fuel, hf⟩ := h6
    exact arr_of (z6.trans cells30) (open_rds Try.underlying30 Try.underlying29 Try.underlying26 cells26 cells29 (fun _ => rfl) hf)
  have i7 : Ints .i64 A7 16 (numAt A7.toList) ∧ ∀ i, (Lit.int .i64 (numAt A7.toList i)).wf = true := by
    obtain ⟨fuel, hf⟩ := h7
    exact ints_of (z7.trans cells31) (open_nums Try.underlying31 Try.underlying3 cells3 hf)
  have i8 : Ints .u64 A8 256 (numAt A8.toList) ∧ ∀ i, (Lit.int .u64 (numAt A8.toList i)).wf = true := by
    obtain ⟨fuel, hf⟩ := h8
    refine ints_of (z8.trans cells32) (fun q hq => ?_)
    have := open_nums2 Try.underlying32 Try.underlying27 Try.underlying26 cells26 cells27 hf (q / 16) (q % 16) (by omega) (by omega)
    rw [show q / 16 * 16 + q % 16 = q from by omega] at this
    exact this
  obtain ⟨D, a9, b9⟩ : ∃ f : Nat → List Int, Arr W A9 256 f ∧ ∀ i, (f i).length ≤ 9223372036854775807 := by
    obtain ⟨fuel, hf⟩ := h9
    refine arr_of (z9.trans cells33) (fun q hq => ?_)
    have := open_rds2 Try.underlying33 Try.underlying30 Try.underlying29 Try.underlying26 cells26 cells29 cells30 (fun _ => rfl) hf (q / 16) (q % 16) (by omega) (by omega)
    rw [show q / 16 * 16 + q % 16 = q from by omega] at this
    exact this
  clear hA0 hval0
  refine (walk a0 a1 a2 a3 A4 A5 A6 A7 A8 A9 W i4.1 i5.1 i5.2 L a6 b6 i7.1 i7.2 i8.1 D a9 b9 w2).mono fun e W' ⟨he, bel⟩ => ?_
  subst he
  exact ⟨_, rfl, _, _, _, [], _, [], hW', trodAll_mk1 (shut_bool Try.underlying4 _), (trodAll_cons_mk (shut_int Try.underlying26 w0) (trodAll_cons_mk (shut_int Try.underlying3 w1) (trodAll_cons_mk (shut_int Try.underlying3 w2) (trodAll_cons_mk (shut_bool Try.underlying4 _) (trodAll_cons_mk (Below.trod laidOut (by kernel_rfl) (of_decide_eq_true (by kernel_rfl)) k4 bel lt4) (trodAll_cons_mk (Below.trod laidOut (by kernel_rfl) (of_decide_eq_true (by kernel_rfl)) k5 bel lt5) (trodAll_cons_mk (Below.trod laidOut (by kernel_rfl) (of_decide_eq_true (by kernel_rfl)) k6 bel lt6) (trodAll_cons_mk (Below.trod laidOut (by kernel_rfl) (of_decide_eq_true (by kernel_rfl)) k7 bel lt7) (trodAll_cons_mk (Below.trod laidOut (by kernel_rfl) (of_decide_eq_true (by kernel_rfl)) k8 bel lt8) (trodAll_cons_mk (Below.trod laidOut (by kernel_rfl) (of_decide_eq_true (by kernel_rfl)) k9 bel lt9) trodAll_mk0)))))))))), rfl, bel.frame _, fun h => by cases h⟩

theorem over : Rows.fnPointTreeRankCountsEntriesBelowRow.holds Try.pinned (OpenSpec.ofChange Rows.fnPointTreeRankCountsEntriesBelowSpec) :=
  OpenClaim.holds_of_wide 5 Try.f5 rfl rfl rfl rfl rfl rfl rfl ⟨rfl, rfl, rfl, rfl, rfl⟩ rfl rfl rfl rfl rfl (by kernel_rfl) Try.func5 (by kernel_rfl)
    (of_decide_eq_true (by kernel_rfl)) (by unfold Func.isWrapper; first | (rw [if_pos (by decide +kernel)]; kernel_rfl) | (rw [if_neg (by decide +kernel)]; exact ⟨rfl, rfl⟩))
    (fun os started H enc _ => lifted os started H enc)

/-- ████ THE STATEMENT ████ -/
theorem proved : Rows.FnPointTreeRankCountsEntriesBelowSaid := over
#print axioms proved
end Go.Proofs.Qxb6604322a.fnPointTreeRankCountsEntriesBelow
