/-
  THE SHELL OF A PROOF OF 'Rows.FnRingDiffPositionAgainstModelSaid' ('example.com/ringmark/ringmark/zzlaws_root_b1.FnRingDiffPositionAgainstModel'), WRITTEN BY PROGRAM (proof-skeleton.mjs, third state) off the guide's own print for that function. Not trusted: Lean checks it.
  THE WALK IS FILLED IN. ALL ELSE IS THE GUIDE's OWN WAY (howto/template/XProofs.lean; Derived/Test/ChunkProofs.lean for 'Below') at this function's number and types: leave it.
-/
import Derived.Test.Qxb6604322aRows
import Derived.WalkKit
import Derived.ProofKit
import Derived.OpenShut
import Derived.ShutString
import Derived.ChangeOld
import Derived.Below
import Derived.Test.Qxb6604322aRingH11n
import Derived.Test.Qxb6604322aRingH11e
import Derived.Test.Qxb6604322aRingH10
import Derived.Test.Qxb6604322aRingH01
import Derived.Test.Qxb6604322aRingH00
namespace Go.Proofs.Qxb6604322a.fnRingDiffPositionAgainstModel
open Go.ChangeShapes Go.WideShapes Go.ChangeAt Go.RowKit
open Go.ChangeMaps (open_string shut_string)
set_option linter.unusedVariables false

theorem own : ownKnob Try.prog.godebug = none := by kernel_rfl
theorem laidOut : laidOutB Try.prog = true := by kernel_rfl

/-- WHAT THE WALK IS TOLD OF A SLICE OF INTEGERS THAT CAME IN: it is nil; or it leads to a row of 'cap' cells, the numbers 'zs' (the first 'len' are its elements, the rest its spare room), each fitting its kind. -/
def IsRow (k : IntKind) (w : World) (a : Option Addr) (len cap : Nat) (zs : List Int) : Prop :=
  (a = none ∧ len = 0 ∧ cap = 0 ∧ zs = []) ∨
  ∃ x, a = some x ∧ len ≤ cap ∧ cap ≤ maxLen ∧ zs.length = cap ∧ (∀ i, i < zs.length → w.cell? (x.add i) = some (.int k (zs.getD i 0))) ∧ ∀ n ∈ zs, (Lit.int k n).wf = true

/-- What the walk wants to know of a slice that came in. -/
theorem row_rd {k : IntKind} {w : World} {a : Option Addr} {len cap : Nat} {zs : List Int} (h : IsRow k w a len cap zs) :
    len ≤ 9223372036854775807 ∧ Ring.RdT k w (.slice a len cap) (zs.take len) ∧ Ring.Sl (.slice a len cap) ∧ len = (zs.take len).length ∧ ∀ n ∈ zs.take len, (Lit.int k n).wf = true := by
  rcases h with ⟨rfl, rfl, rfl, rfl⟩ | ⟨x, rfl, hl, hm, hz, hcell, hwz⟩
  · exact ⟨by decide, Ring.rdt_nil _ _, .inl rfl, rfl, fun n hn => by simp at hn⟩
  · have hlen : len = (zs.take len).length := by rw [List.length_take]; omega
    refine ⟨by unfold maxLen at hm; omega, ?_, .inr ⟨x, len, cap, rfl⟩, hlen, fun n hn => hwz n (List.mem_of_mem_take hn)⟩
    refine ⟨some x, cap, by rw [← hlen], by rw [← hlen]; exact hl, fun h0 => ?_⟩
    rw [← hlen] at h0
    obtain ⟨b, off, rfl, hb, hpl⟩ := Copies.plain_row (len := len) (fun i hi => hcell i (by omega)) h0
    refine ⟨b, off, rfl, trivial, hb, fun i hi => ?_⟩
    rw [← hlen] at hi
    rw [hpl i hi]
    simp [hi]

/-! ### STEP 1: THE WALK: the Go text returns true, AND WRITES NOTHING THAT WAS THERE: 'Below w.heap.size w w'' (Derived/Below.lean: '.refl', '.alloc', '.drew', '.setCell' at a new block, '.trans'). Open each 'IsRow' by 'rcases' AHEAD of 'go_enter'; part every test ahead of the walk. -/
theorem walk (a0 : Option Addr) (len0 cap0 : Nat) (z0 : List Int) (a1 : Option Addr) (len1 cap1 : Nat) (z1 : List Int) (a2 : Option Addr) (len2 cap2 : Nat) (z2 : List Int) (a3 : Option Addr) (len3 cap3 : Nat) (z3 : List Int) (a4 : Option Addr) (len4 cap4 : Nat) (z4 : List Int) (a5 : Option Addr) (len5 cap5 : Nat) (z5 : List Int) (a6 : Option Addr) (len6 cap6 : Nat) (z6 : List Int) (a7 : Int) (a8 : Option Addr) (len8 cap8 : Nat) (z8 : List Int) (a9 : Option Addr) (len9 cap9 : Nat) (z9 : List Int) (a10 : Int) (w : World) (w0 : IsRow .u64 w a0 len0 cap0 z0) (w1 : IsRow .u64 w a1 len1 cap1 z1) (w2 : IsRow .u64 w a2 len2 cap2 z2) (w3 : IsRow .u64 w a3 len3 cap3 z3) (w4 : IsRow .u64 w a4 len4 cap4 z4) (w5 : IsRow .u64 w a5 len5 cap5 z5) (w6 : IsRow .u32 w a6 len6 cap6 z6) (w7 : (Lit.int .u32 a7).wf = true) (w8 : IsRow .i64 w a8 len8 cap8 z8) (w9 : IsRow .i64 w a9 len9 cap9 z9) (w10 : (Lit.int .i64 a10).wf = true) :
    Calls Try.prog 7 #[.slice a0 len0 cap0, .slice a1 len1 cap1, .slice a2 len2 cap2, .slice a3 len3 cap3, .slice a4 len4 cap4, .slice a5 len5 cap5, .slice a6 len6 cap6, .int .u32 a7, .slice a8 len8 cap8, .slice a9 len9 cap9, .int .i64 a10] w fun e w' => e = .returned (.bool true) ∧ Below w.heap.size w w' := by
  obtain ⟨m0, r0, s0, n0, f0⟩ := row_rd w0
  obtain ⟨m1, r1, s1, n1, f1⟩ := row_rd w1
  obtain ⟨m2, r2, s2, n2, f2⟩ := row_rd w2
  obtain ⟨m3, r3, s3, n3, f3⟩ := row_rd w3
  obtain ⟨m4, r4, s4, n4, f4⟩ := row_rd w4
  obtain ⟨m5, r5, s5, n5, f5⟩ := row_rd w5
  obtain ⟨m6, r6, s6, n6, f6⟩ := row_rd w6
  obtain ⟨m8, r8, s8, n8, f8⟩ := row_rd w8
  obtain ⟨m9, r9, s9, n9, f9⟩ := row_rd w9
  have hp := bounds_u32 w7
  have x8 : ∀ x ∈ z8.take len8, x ≤ 9223372036854775807 := fun x hx => (bounds_i64 (f8 x hx)).2
  have x9 : ∀ x ∈ z9.take len9, x ≤ 9223372036854775807 := fun x hx => (bounds_i64 (f9 x hx)).2
  by_cases q0 : len0 ≤ 131072
  case neg => exact Ring.law7_0 a0 a1 a2 a3 a4 a5 a6 a8 a9 len0 len1 len2 len3 len4 len5 len6 len8 len9 cap0 cap1 cap2 cap3 cap4 cap5 cap6 cap8 cap9 a7 a10 w m0 m1 m2 m3 m4 m5 m6 m8 m9  q0
  by_cases q1 : len1 ≤ 131072
  case neg => exact Ring.law7_1 a0 a1 a2 a3 a4 a5 a6 a8 a9 len0 len1 len2 len3 len4 len5 len6 len8 len9 cap0 cap1 cap2 cap3 cap4 cap5 cap6 cap8 cap9 a7 a10 w m0 m1 m2 m3 m4 m5 m6 m8 m9 q0 q1
  by_cases q2 : len2 ≤ 131072
  case neg => exact Ring.law7_2 a0 a1 a2 a3 a4 a5 a6 a8 a9 len0 len1 len2 len3 len4 len5 len6 len8 len9 cap0 cap1 cap2 cap3 cap4 cap5 cap6 cap8 cap9 a7 a10 w m0 m1 m2 m3 m4 m5 m6 m8 m9 q0 q1 q2
  by_cases q3 : len3 ≤ 131072
  case neg => exact Ring.law7_3 a0 a1 a2 a3 a4 a5 a6 a8 a9 len0 len1 len2 len3 len4 len5 len6 len8 len9 cap0 cap1 cap2 cap3 cap4 cap5 cap6 cap8 cap9 a7 a10 w m0 m1 m2 m3 m4 m5 m6 m8 m9 q0 q1 q2 q3
  by_cases q4 : len4 ≤ 131072
  case neg => exact Ring.law7_4 a0 a1 a2 a3 a4 a5 a6 a8 a9 len0 len1 len2 len3 len4 len5 len6 len8 len9 cap0 cap1 cap2 cap3 cap4 cap5 cap6 cap8 cap9 a7 a10 w m0 m1 m2 m3 m4 m5 m6 m8 m9 q0 q1 q2 q3 q4
  by_cases q5 : len5 ≤ 131072
  case neg => exact Ring.law7_5 a0 a1 a2 a3 a4 a5 a6 a8 a9 len0 len1 len2 len3 len4 len5 len6 len8 len9 cap0 cap1 cap2 cap3 cap4 cap5 cap6 cap8 cap9 a7 a10 w m0 m1 m2 m3 m4 m5 m6 m8 m9 q0 q1 q2 q3 q4 q5
  by_cases q6 : len6 ≤ 262144
  case neg => exact Ring.law7_6 a0 a1 a2 a3 a4 a5 a6 a8 a9 len0 len1 len2 len3 len4 len5 len6 len8 len9 cap0 cap1 cap2 cap3 cap4 cap5 cap6 cap8 cap9 a7 a10 w m0 m1 m2 m3 m4 m5 m6 m8 m9 q0 q1 q2 q3 q4 q5 q6
  by_cases q8 : len8 ≤ 131072
  case neg => exact Ring.law7_8 a0 a1 a2 a3 a4 a5 a6 a8 a9 len0 len1 len2 len3 len4 len5 len6 len8 len9 cap0 cap1 cap2 cap3 cap4 cap5 cap6 cap8 cap9 a7 a10 w m0 m1 m2 m3 m4 m5 m6 m8 m9 q0 q1 q2 q3 q4 q5 q6 q8
  by_cases q9 : len9 ≤ 131072
  case neg => exact Ring.law7_9 a0 a1 a2 a3 a4 a5 a6 a8 a9 len0 len1 len2 len3 len4 len5 len6 len8 len9 cap0 cap1 cap2 cap3 cap4 cap5 cap6 cap8 cap9 a7 a10 w m0 m1 m2 m3 m4 m5 m6 m8 m9 q0 q1 q2 q3 q4 q5 q6 q8 q9
  by_cases tot : 8 * (len0 + len1 + len2 + len3 + len4 + len5 + len8 + len9) + 4 * len6 ≤ 1048576
  case neg => exact Ring.law7_t a0 a1 a2 a3 a4 a5 a6 a8 a9 len0 len1 len2 len3 len4 len5 len6 len8 len9 cap0 cap1 cap2 cap3 cap4 cap5 cap6 cap8 cap9 a7 a10 w m0 m1 m2 m3 m4 m5 m6 m8 m9 q0 q1 q2 q3 q4 q5 q6 q8 q9 tot
  by_cases h8 : 0 < len8
  case neg =>
    by_cases h9 : 0 < len9
    case neg => exact Ring.law7_00 a0 a1 a2 a3 a4 a5 a6 a8 a9 len0 len1 len2 len3 len4 len5 len6 len8 len9 cap0 cap1 cap2 cap3 cap4 cap5 cap6 cap8 cap9 (z0.take len0) (z1.take len1) (z2.take len2) (z3.take len3) (z4.take len4) (z5.take len5) (z6.take len6) (z8.take len8) (z9.take len9) a7 a10 w hp.1 hp.2 q0 q1 q2 q3 q4 q5 q6 q8 q9 tot n0 n1 n2 n3 n4 n5 n6 n8 n9 ⟨r0, s0⟩ ⟨r1, s1⟩ ⟨r2, s2⟩ ⟨r3, s3⟩ ⟨r4, s4⟩ ⟨r5, s5⟩ ⟨r6, s6⟩ ⟨r8, s8⟩ ⟨r9, s9⟩ ⟨x8, x9⟩ h8 h9
    case pos => exact Ring.law7_01 a0 a1 a2 a3 a4 a5 a6 a8 a9 len0 len1 len2 len3 len4 len5 len6 len8 len9 cap0 cap1 cap2 cap3 cap4 cap5 cap6 cap8 cap9 (z0.take len0) (z1.take len1) (z2.take len2) (z3.take len3) (z4.take len4) (z5.take len5) (z6.take len6) (z8.take len8) (z9.take len9) a7 a10 w hp.1 hp.2 q0 q1 q2 q3 q4 q5 q6 q8 q9 tot n0 n1 n2 n3 n4 n5 n6 n8 n9 ⟨r0, s0⟩ ⟨r1, s1⟩ ⟨r2, s2⟩ ⟨r3, s3⟩ ⟨r4, s4⟩ ⟨r5, s5⟩ ⟨r6, s6⟩ ⟨r8, s8⟩ ⟨r9, s9⟩ ⟨x8, x9⟩ h8 h9
  case pos =>
    by_cases h9 : 0 < len9
    case neg => exact Ring.law7_10 a0 a1 a2 a3 a4 a5 a6 a8 a9 len0 len1 len2 len3 len4 len5 len6 len8 len9 cap0 cap1 cap2 cap3 cap4 cap5 cap6 cap8 cap9 (z0.take len0) (z1.take len1) (z2.take len2) (z3.take len3) (z4.take len4) (z5.take len5) (z6.take len6) (z8.take len8) (z9.take len9) a7 a10 w hp.1 hp.2 q0 q1 q2 q3 q4 q5 q6 q8 q9 tot n0 n1 n2 n3 n4 n5 n6 n8 n9 ⟨r0, s0⟩ ⟨r1, s1⟩ ⟨r2, s2⟩ ⟨r3, s3⟩ ⟨r4, s4⟩ ⟨r5, s5⟩ ⟨r6, s6⟩ ⟨r8, s8⟩ ⟨r9, s9⟩ ⟨x8, x9⟩ h8 h9
    case pos =>
      by_cases heq : Ring.taker (z8.take len8) = Ring.taker (z9.take len9)
      case pos => exact Ring.law7_11e a0 a1 a2 a3 a4 a5 a6 a8 a9 len0 len1 len2 len3 len4 len5 len6 len8 len9 cap0 cap1 cap2 cap3 cap4 cap5 cap6 cap8 cap9 (z0.take len0) (z1.take len1) (z2.take len2) (z3.take len3) (z4.take len4) (z5.take len5) (z6.take len6) (z8.take len8) (z9.take len9) a7 a10 w hp.1 hp.2 q0 q1 q2 q3 q4 q5 q6 q8 q9 tot n0 n1 n2 n3 n4 n5 n6 n8 n9 ⟨r0, s0⟩ ⟨r1, s1⟩ ⟨r2, s2⟩ ⟨r3, s3⟩ ⟨r4, s4⟩ ⟨r5, s5⟩ ⟨r6, s6⟩ ⟨r8, s8⟩ ⟨r9, s9⟩ ⟨x8, x9⟩ h8 h9 heq
      case neg => exact Ring.law7_11n a0 a1 a2 a3 a4 a5 a6 a8 a9 len0 len1 len2 len3 len4 len5 len6 len8 len9 cap0 cap1 cap2 cap3 cap4 cap5 cap6 cap8 cap9 (z0.take len0) (z1.take len1) (z2.take len2) (z3.take len3) (z4.take len4) (z5.take len5) (z6.take len6) (z8.take len8) (z9.take len9) a7 a10 w hp.1 hp.2 q0 q1 q2 q3 q4 q5 q6 q8 q9 tot n0 n1 n2 n3 n4 n5 n6 n8 n9 ⟨r0, s0⟩ ⟨r1, s1⟩ ⟨r2, s2⟩ ⟨r3, s3⟩ ⟨r4, s4⟩ ⟨r5, s5⟩ ⟨r6, s6⟩ ⟨r8, s8⟩ ⟨r9, s9⟩ ⟨x8, x9⟩ h8 h9 heq

/-! ### THE ROW's STEP: WRITTEN OUT: LEAVE IT -/
set_option maxRecDepth 100000 in
theorem lifted (os : Os) (started : os.Started) (H : Type) (enc : TypeId × Value → H) :
    ReturnsInHanded {} Try.checked os 7 .any (Rows.fnRingDiffPositionAgainstModelSpec.pre6 enc Try.prog Try.f7 Rows.fnRingDiffPositionAgainstModelRow.domain false) (Rows.fnRingDiffPositionAgainstModelSpec.post enc Try.prog Try.f7 false true false false) := by
  refine returnsInHanded_of_change (C := Try.checked) own started (by kernel_rfl) Try.func7
    (ChangeSpec.witness6 (enc := enc) (C := Try.checked) false ⟨#[], #[.slice none 0 0, .slice none 0 0, .slice none 0 0, .slice none 0 0, .slice none 0 0, .slice none 0 0, .slice none 0 0, .int .u32 0, .slice none 0 0, .slice none 0 0, .int .i64 0], []⟩ 8 (by kernel_rfl) (by kernel_rfl) (by kernel_rfl) (by kernel_rfl)) ?_
  intro W base args ds gs before hval0 hW hcnd _
  have hval : ∀ (j : Nat) t v, Try.f7.params[j]? = some t → args[j]? = some v → Value.okWide Try.prog W .any base t v := hval0
  have hW' := hW
  obtain ⟨p, q, hA0, hV, rfl, hfz, hnd⟩ := hW
  have hA : DataW.TrodAll enc Try.prog W 0 (fun _ => true) true Try.f7.params.toList args.toList ds p := hA0
  rw [Try.params7] at hA hval
  obtain ⟨v0, vs0, d0, ds0, p0, q0, hargs, rfl, rfl, h0, r0⟩ := trodAll_cons hA
  obtain ⟨v1, vs1, d1, ds1, p1, q1, rfl, rfl, rfl, h1, r1⟩ := trodAll_cons r0
  obtain ⟨v2, vs2, d2, ds2, p2, q2, rfl, rfl, rfl, h2, r2⟩ := trodAll_cons r1
  obtain ⟨v3, vs3, d3, ds3, p3, q3, rfl, rfl, rfl, h3, r3⟩ := trodAll_cons r2
  obtain ⟨v4, vs4, d4, ds4, p4, q4, rfl, rfl, rfl, h4, r4⟩ := trodAll_cons r3
  obtain ⟨v5, vs5, d5, ds5, p5, q5, rfl, rfl, rfl, h5, r5⟩ := trodAll_cons r4
  obtain ⟨v6, vs6, d6, ds6, p6, q6, rfl, rfl, rfl, h6, r6⟩ := trodAll_cons r5
  obtain ⟨v7, vs7, d7, ds7, p7, q7, rfl, rfl, rfl, h7, r7⟩ := trodAll_cons r6
  obtain ⟨v8, vs8, d8, ds8, p8, q8, rfl, rfl, rfl, h8, r8⟩ := trodAll_cons r7
  obtain ⟨v9, vs9, d9, ds9, p9, q9, rfl, rfl, rfl, h9, r9⟩ := trodAll_cons r8
  obtain ⟨v10, vs10, d10, ds10, p10, q10, rfl, rfl, rfl, h10, r10⟩ := trodAll_cons r9
  obtain ⟨rfl, rfl, rfl⟩ := trodAll_nil r10
  obtain rfl : args = #[v0, v1, v2, v3, v4, v5, v6, v7, v8, v9, v10] := by cases args; simp_all
  obtain ⟨rfl, rfl⟩ := trodVars_none hV
  obtain ⟨a0, len0, cap0, rfl⟩ := okWide_slice Try.underlying29 (hval 0 29 v0 rfl rfl)
  have k0 := h0
  have lt0 : ∀ x ∈ p0, x.block < W.heap.size := by obtain ⟨m, hm⟩ := k0; exact DataW.trod_lt m _ _ _ hm
  obtain ⟨z0, w0⟩ : ∃ zs, IsRow .u64 W a0 len0 cap0 zs := by
    obtain ⟨fuel, hf⟩ := h0
    rcases open_ints Try.underlying29 Try.underlying26 (by kernel_rfl) hf with ⟨hcs, _⟩ | ⟨x, l, c, zs, hcs, _, hl, hm, hz, _, hcell, hwz⟩
    · simp [Value.cells] at hcs
      obtain ⟨rfl, rfl, rfl⟩ := hcs
      exact ⟨[], .inl ⟨rfl, rfl, rfl, rfl⟩⟩
    · simp [Value.cells] at hcs
      obtain ⟨rfl, rfl, rfl⟩ := hcs
      exact ⟨zs, .inr ⟨_, rfl, hl, hm, by simpa using hz, hcell, hwz⟩⟩
  obtain ⟨a1, len1, cap1, rfl⟩ := okWide_slice Try.underlying29 (hval 1 29 v1 rfl rfl)
  have k1 := h1
  have lt1 : ∀ x ∈ p1, x.block < W.heap.size := by obtain ⟨m, hm⟩ := k1; exact DataW.trod_lt m _ _ _ hm
  obtain ⟨z1, w1⟩ : ∃ zs, IsRow .u64 W a1 len1 cap1 zs := by
    obtain ⟨fuel, hf⟩ := h1
    rcases open_ints Try.underlying29 Try.underlying26 (by kernel_rfl) hf with ⟨hcs, _⟩ | ⟨x, l, c, zs, hcs, _, hl, hm, hz, _, hcell, hwz⟩
    · simp [Value.cells] at hcs
      obtain ⟨rfl, rfl, rfl⟩ := hcs
      exact ⟨[], .inl ⟨rfl, rfl, rfl, rfl⟩⟩
    · simp [Value.cells] at hcs
      obtain ⟨rfl, rfl, rfl⟩ := hcs
      exact ⟨zs, .inr ⟨_, rfl, hl, hm, by simpa using hz, hcell, hwz⟩⟩
  obtain ⟨a2, len2, cap2, rfl⟩ := okWide_slice Try.underlying29 (hval 2 29 v2 rfl rfl)
  have k2 := h2
  have lt2 : ∀ x ∈ p2, x.block < W.heap.size := by obtain ⟨m, hm⟩ := k2; exact DataW.trod_lt m _ _ _ hm
  obtain ⟨z2, w2⟩ : ∃ zs, IsRow .u64 W a2 len2 cap2 zs := by
    obtain ⟨fuel, hf⟩ := h2
    rcases open_ints Try.underlying29 Try.underlying26 (by kernel_rfl) hf with ⟨hcs, _⟩ | ⟨x, l, c, zs, hcs, _, hl, hm, hz, _, hcell, hwz⟩
    · simp [Value.cells] at hcs
      obtain ⟨rfl, rfl, rfl⟩ := hcs
      exact ⟨[], .inl ⟨rfl, rfl, rfl, rfl⟩⟩
    · simp [Value.cells] at hcs
      obtain ⟨rfl, rfl, rfl⟩ := hcs
      exact ⟨zs, .inr ⟨_, rfl, hl, hm, by simpa using hz, hcell, hwz⟩⟩
  obtain ⟨a3, len3, cap3, rfl⟩ := okWide_slice Try.underlying29 (hval 3 29 v3 rfl rfl)
  have k3 := h3
  have lt3 : ∀ x ∈ p3, x.block < W.heap.size := by obtain ⟨m, hm⟩ := k3; exact DataW.trod_lt m _ _ _ hm
  obtain ⟨z3, w3⟩ : ∃ zs, IsRow .u64 W a3 len3 cap3 zs := by
    obtain ⟨fuel, hf⟩ := h3
    rcases open_ints Try.underlying29 Try.underlying26 (by kernel_rfl) hf with ⟨hcs, _⟩ | ⟨x, l, c, zs, hcs, _, hl, hm, hz, _, hcell, hwz⟩
    · simp [Value.cells] at hcs
      obtain ⟨rfl, rfl, rfl⟩ := hcs
      exact ⟨[], .inl ⟨rfl, rfl, rfl, rfl⟩⟩
    · simp [Value.cells] at hcs
      obtain ⟨rfl, rfl, rfl⟩ := hcs
      exact ⟨zs, .inr ⟨_, rfl, hl, hm, by simpa using hz, hcell, hwz⟩⟩
  obtain ⟨a4, len4, cap4, rfl⟩ := okWide_slice Try.underlying29 (hval 4 29 v4 rfl rfl)
  have k4 := h4
  have lt4 : ∀ x ∈ p4, x.block < W.heap.size := by obtain ⟨m, hm⟩ := k4; exact DataW.trod_lt m _ _ _ hm
  obtain ⟨z4, w4⟩ : ∃ zs, IsRow .u64 W a4 len4 cap4 zs := by
    obtain ⟨fuel, hf⟩ := h4
    rcases open_ints Try.underlying29 Try.underlying26 (by kernel_rfl) hf with ⟨hcs, _⟩ | ⟨x, l, c, zs, hcs, _, hl, hm, hz, _, hcell, hwz⟩
    · simp [Value.cells] at hcs
      obtain ⟨rfl, rfl, rfl⟩ := hcs
      exact ⟨[], .inl ⟨rfl, rfl, rfl, rfl⟩⟩
    · simp [Value.cells] at hcs
      obtain ⟨rfl, rfl, rfl⟩ := hcs
      exact ⟨zs, .inr ⟨_, rfl, hl, hm, by simpa using hz, hcell, hwz⟩⟩
  obtain ⟨a5, len5, cap5, rfl⟩ := okWide_slice Try.underlying29 (hval 5 29 v5 rfl rfl)
  have k5 := h5
  have lt5 : ∀ x ∈ p5, x.block < W.heap.size := by obtain ⟨m, hm⟩ := k5; exact DataW.trod_lt m _ _ _ hm
  obtain ⟨z5, w5⟩ : ∃ zs, IsRow .u64 W a5 len5 cap5 zs := by
    obtain ⟨fuel, hf⟩ := h5
    rcases open_ints Try.underlying29 Try.underlying26 (by kernel_rfl) hf with ⟨hcs, _⟩ | ⟨x, l, c, zs, hcs, _, hl, hm, hz, _, hcell, hwz⟩
    · simp [Value.cells] at hcs
      obtain ⟨rfl, rfl, rfl⟩ := hcs
      exact ⟨[], .inl ⟨rfl, rfl, rfl, rfl⟩⟩
    · simp [Value.cells] at hcs
      obtain ⟨rfl, rfl, rfl⟩ := hcs
      exact ⟨zs, .inr ⟨_, rfl, hl, hm, by simpa using hz, hcell, hwz⟩⟩
  obtain ⟨a6, len6, cap6, rfl⟩ := okWide_slice Try.underlying42 (hval 6 42 v6 rfl rfl)
  have k6 := h6
  have lt6 : ∀ x ∈ p6, x.block < W.heap.size := by obtain ⟨m, hm⟩ := k6; exact DataW.trod_lt m _ _ _ hm
  obtain ⟨z6, w6⟩ : ∃ zs, IsRow .u32 W a6 len6 cap6 zs := by
    obtain ⟨fuel, hf⟩ := h6
    rcases open_ints Try.underlying42 Try.underlying43 (by kernel_rfl) hf with ⟨hcs, _⟩ | ⟨x, l, c, zs, hcs, _, hl, hm, hz, _, hcell, hwz⟩
    · simp [Value.cells] at hcs
      obtain ⟨rfl, rfl, rfl⟩ := hcs
      exact ⟨[], .inl ⟨rfl, rfl, rfl, rfl⟩⟩
    · simp [Value.cells] at hcs
      obtain ⟨rfl, rfl, rfl⟩ := hcs
      exact ⟨zs, .inr ⟨_, rfl, hl, hm, by simpa using hz, hcell, hwz⟩⟩
  obtain ⟨a7, rfl, rfl, rfl, w7⟩ := open_int Try.underlying43 (hval 7 43 v7 rfl rfl) h7
  obtain ⟨a8, len8, cap8, rfl⟩ := okWide_slice Try.underlying44 (hval 8 44 v8 rfl rfl)
  have k8 := h8
  have lt8 : ∀ x ∈ p8, x.block < W.heap.size := by obtain ⟨m, hm⟩ := k8; exact DataW.trod_lt m _ _ _ hm
  obtain ⟨z8, w8⟩ : ∃ zs, IsRow .i64 W a8 len8 cap8 zs := by
    obtain ⟨fuel, hf⟩ := h8
    rcases open_ints Try.underlying44 Try.underlying3 (by kernel_rfl) hf with ⟨hcs, _⟩ | ⟨x, l, c, zs, hcs, _, hl, hm, hz, _, hcell, hwz⟩
    · simp [Value.cells] at hcs
      obtain ⟨rfl, rfl, rfl⟩ := hcs
      exact ⟨[], .inl ⟨rfl, rfl, rfl, rfl⟩⟩
    · simp [Value.cells] at hcs
      obtain ⟨rfl, rfl, rfl⟩ := hcs
      exact ⟨zs, .inr ⟨_, rfl, hl, hm, by simpa using hz, hcell, hwz⟩⟩
  obtain ⟨a9, len9, cap9, rfl⟩ := okWide_slice Try.underlying44 (hval 9 44 v9 rfl rfl)
  have k9 := h9
  have lt9 : ∀ x ∈ p9, x.block < W.heap.size := by obtain ⟨m, hm⟩ := k9; exact DataW.trod_lt m _ _ _ hm
  obtain ⟨z9, w9⟩ : ∃ zs, IsRow .i64 W a9 len9 cap9 zs := by
    obtain ⟨fuel, hf⟩ := h9
    rcases open_ints Try.underlying44 Try.underlying3 (by kernel_rfl) hf with ⟨hcs, _⟩ | ⟨x, l, c, zs, hcs, _, hl, hm, hz, _, hcell, hwz⟩
    · simp [Value.cells] at hcs
      obtain ⟨rfl, rfl, rfl⟩ := hcs
      exact ⟨[], .inl ⟨rfl, rfl, rfl, rfl⟩⟩
    · simp [Value.cells] at hcs
      obtain ⟨rfl, rfl, rfl⟩ := hcs
      exact ⟨zs, .inr ⟨_, rfl, hl, hm, by simpa using hz, hcell, hwz⟩⟩
  obtain ⟨a10, rfl, rfl, rfl, w10⟩ := open_int Try.underlying3 (hval 10 3 v10 rfl rfl) h10
  clear hA0 hval0
  refine (walk a0 len0 cap0 z0 a1 len1 cap1 z1 a2 len2 cap2 z2 a3 len3 cap3 z3 a4 len4 cap4 z4 a5 len5 cap5 z5 a6 len6 cap6 z6 a7 a8 len8 cap8 z8 a9 len9 cap9 z9 a10 W w0 w1 w2 w3 w4 w5 w6 w7 w8 w9 w10).mono fun e W' ⟨he, bel⟩ => ?_
  subst he
  exact ⟨_, rfl, _, _, _, [], _, [], hW', trodAll_mk1 (shut_bool Try.underlying4 _), (trodAll_cons_mk (Below.trod laidOut (by kernel_rfl) (of_decide_eq_true (by kernel_rfl)) k0 bel lt0) (trodAll_cons_mk (Below.trod laidOut (by kernel_rfl) (of_decide_eq_true (by kernel_rfl)) k1 bel lt1) (trodAll_cons_mk (Below.trod laidOut (by kernel_rfl) (of_decide_eq_true (by kernel_rfl)) k2 bel lt2) (trodAll_cons_mk (Below.trod laidOut (by kernel_rfl) (of_decide_eq_true (by kernel_rfl)) k3 bel lt3) (trodAll_cons_mk (Below.trod laidOut (by kernel_rfl) (of_decide_eq_true (by kernel_rfl)) k4 bel lt4) (trodAll_cons_mk (Below.trod laidOut (by kernel_rfl) (of_decide_eq_true (by kernel_rfl)) k5 bel lt5) (trodAll_cons_mk (Below.trod laidOut (by kernel_rfl) (of_decide_eq_true (by kernel_rfl)) k6 bel lt6) (trodAll_cons_mk (shut_int Try.underlying43 w7) (trodAll_cons_mk (Below.trod laidOut (by kernel_rfl) (of_decide_eq_true (by kernel_rfl)) k8 bel lt8) (trodAll_cons_mk (Below.trod laidOut (by kernel_rfl) (of_decide_eq_true (by kernel_rfl)) k9 bel lt9) (trodAll_cons_mk (shut_int Try.underlying3 w10) trodAll_mk0))))))))))), rfl, bel.frame _, fun h => by cases h⟩

theorem over : Rows.fnRingDiffPositionAgainstModelRow.holds Try.pinned (OpenSpec.ofChange Rows.fnRingDiffPositionAgainstModelSpec) :=
  OpenClaim.holds_of_wide 7 Try.f7 rfl rfl rfl rfl rfl rfl rfl ⟨rfl, rfl, rfl, rfl, rfl⟩ rfl rfl rfl rfl rfl (by kernel_rfl) Try.func7 (by kernel_rfl)
    (of_decide_eq_true (by kernel_rfl)) (by unfold Func.isWrapper; first | (rw [if_pos (by decide +kernel)]; kernel_rfl) | (rw [if_neg (by decide +kernel)]; exact ⟨rfl, rfl⟩))
    (fun os started H enc _ => lifted os started H enc)

/-- ████ THE STATEMENT ████ -/
theorem proved : Rows.FnRingDiffPositionAgainstModelSaid := over
#print axioms proved
end Go.Proofs.Qxb6604322a.fnRingDiffPositionAgainstModel
