/-
  The law over position (7): the way through, case 11e.
-/
import Derived.Test.Qxb6604322aRingG
namespace Go.Proofs.Qxb6604322a.Ring
open Go.ChangeShapes Go.WideShapes Go.ChangeAt Go.RowKit Mem
set_option linter.unusedVariables false
set_option linter.unusedSimpArgs false

set_option maxRecDepth 100000 in
set_option maxHeartbeats 8000000 in
theorem law7_11e (a0 a1 a2 a3 a4 a5 a6 a8 a9 : Option Addr) (n0 n1 n2 n3 n4 n5 n6 n8 n9 c0 c1 c2 c3 c4 c5 c6 c8 c9 : Nat) (L0 L1 L2 L3 L4 L5 L6 bs cs : List Int) (pos kept : Int) (w : World) (hp0 : 0 ≤ pos) (hp1 : pos ≤ 4294967295)
    (q0 : n0 ≤ 131072) (q1 : n1 ≤ 131072) (q2 : n2 ≤ 131072) (q3 : n3 ≤ 131072) (q4 : n4 ≤ 131072) (q5 : n5 ≤ 131072) (q6 : n6 ≤ 262144) (q8 : n8 ≤ 131072) (q9 : n9 ≤ 131072) (tot : 8 * (n0 + n1 + n2 + n3 + n4 + n5 + n8 + n9) + 4 * n6 ≤ 1048576)
    (N0 : Hid (n0 = L0.length)) (N1 : Hid (n1 = L1.length)) (N2 : Hid (n2 = L2.length)) (N3 : Hid (n3 = L3.length)) (N4 : Hid (n4 = L4.length)) (N5 : Hid (n5 = L5.length)) (N6 : Hid (n6 = L6.length)) (N8 : Hid (n8 = bs.length)) (N9 : Hid (n9 = cs.length))
    (R0 : Hid (RdT .u64 w (.slice a0 n0 c0) L0 ∧ Sl (.slice a0 n0 c0))) (R1 : Hid (RdT .u64 w (.slice a1 n1 c1) L1 ∧ Sl (.slice a1 n1 c1))) (R2 : Hid (RdT .u64 w (.slice a2 n2 c2) L2 ∧ Sl (.slice a2 n2 c2))) (R3 : Hid (RdT .u64 w (.slice a3 n3 c3) L3 ∧ Sl (.slice a3 n3 c3))) (R4 : Hid (RdT .u64 w (.slice a4 n4 c4) L4 ∧ Sl (.slice a4 n4 c4))) (R5 : Hid (RdT .u64 w (.slice a5 n5 c5) L5 ∧ Sl (.slice a5 n5 c5))) (R6 : Hid (RdT .u32 w (.slice a6 n6 c6) L6 ∧ Sl (.slice a6 n6 c6))) (R8 : Hid (RdT .i64 w (.slice a8 n8 c8) bs ∧ Sl (.slice a8 n8 c8))) (R9 : Hid (RdT .i64 w (.slice a9 n9 c9) cs ∧ Sl (.slice a9 n9 c9)))
    (X8 : Hid ((∀ x ∈ bs, x ≤ 9223372036854775807) ∧ ∀ x ∈ cs, x ≤ 9223372036854775807))
    (h8 : 0 < n8) (h9 : 0 < n9) (heq : taker bs = taker cs) :
    Calls Try.prog 7 #[.slice a0 n0 c0, .slice a1 n1 c1, .slice a2 n2 c2, .slice a3 n3 c3, .slice a4 n4 c4, .slice a5 n5 c5, .slice a6 n6 c6, .int .u32 pos, .slice a8 n8 c8, .slice a9 n9 c9, .int .i64 kept] w fun e w' => e = .returned (.bool true) ∧ Below w.heap.size w w' := by
  have HEQ := hide2 heq True.intro
  clear heq
  have p0 : decide ((131072 : Int) < (n0 : Int)) = false := by simp; omega
  have p1 : decide ((131072 : Int) < (n1 : Int)) = false := by simp; omega
  have p2 : decide ((131072 : Int) < (n2 : Int)) = false := by simp; omega
  have p3 : decide ((131072 : Int) < (n3 : Int)) = false := by simp; omega
  have p4 : decide ((131072 : Int) < (n4 : Int)) = false := by simp; omega
  have p5 : decide ((131072 : Int) < (n5 : Int)) = false := by simp; omega
  have p6 : decide ((262144 : Int) < (n6 : Int)) = false := by simp; omega
  have p8 : decide ((131072 : Int) < (n8 : Int)) = false := by simp; omega
  have p9 : decide ((131072 : Int) < (n9 : Int)) = false := by simp; omega
  have pt : decide ((1048576 : Int) < 8 * ((n0 : Int) + (n1 : Int) + (n2 : Int) + (n3 : Int) + (n4 : Int) + (n5 : Int) + (n8 : Int) + (n9 : Int)) + 4 * (n6 : Int)) = false := by simp; omega
  go_enter Try.func7, Try.ntmps7
  go_upto_if 54 with (go_at_call 22; refine (bytes22 _ _ _ _ _ _ _ _ _ _ _ _ _ _ _ _ _ _ _ _ _ _ _ _ _ _ _ _ _ _ (by omega) (by omega) (by omega) (by omega) (by omega) (by omega) (by omega) (by omega) (by omega)).mono ?_; rintro e w1 ⟨⟨bb, rfl⟩, hw1⟩; have hw2 := hw1.symm; subst hw2; clear hw1)
  cases bb
  · go_wp2
    go_ret
    exact ⟨rfl, Below.refl _ _⟩
  go_wp2_with fail
  clear p0 p1 p2 p3 p4 p5 p6 p8 p9 pt
  refine (ids_any _ bs w R8.out.1 (by rw [← N8.out]; omega) X8.out.1).mono ?_
  rintro e w1 ⟨b1, rfl, hid1, j1, hw1⟩
  have B1 : Hid (Below w.heap.size w w1) := by show Below _ _ _; rw [hw1]; exact below_drewN (Below.refl _ _) _
  have I1 : Hid (b1 = true → Nn bs ∧ Asc bs.tail) := hid1
  clear hid1 hw1
  cases b1
  · go_wp2
    go_ret
    exact ⟨rfl, B1.out⟩
  go_wp2_with fail
  refine (ids_any _ cs w1 (R9.out.1.next B1.out) (by rw [← N9.out]; omega) X8.out.2).mono ?_
  rintro e w2 ⟨b2, rfl, hid2, j2, hw2⟩
  have B2 : Hid (Below w.heap.size w w2) := by show Below _ _ _; rw [hw2]; exact below_drewN B1.out _
  have I2 : Hid (b2 = true → Nn cs ∧ Asc cs.tail) := hid2
  clear hid2 hw2 B1
  cases b2
  · go_wp2
    go_ret
    exact ⟨rfl, B2.out⟩
  go_wp2_with fail
  refine (cp64 _ L0 w2 (R0.out.1.next (B2.out)) R0.out.2 (by rw [← N0.out]; omega)).mono ?_
  rintro e y0 ⟨s0, rfl, ho, hb, hsl⟩
  have O0 : Hid (Own .u64 26 y0.heap.size y0 s0 L0 none ∧ Sl s0) := ⟨ho, hsl⟩
  have BD : Hid (Below w.heap.size w y0) := B2.out.trans (hb.mono B2.out.size)
  clear ho hb hsl 
  have BC := BD
  clear BD
  go_wp2_with fail
  refine (cp64 _ L1 y0 (R1.out.1.next (BC.out)) R1.out.2 (by rw [← N1.out]; omega)).mono ?_
  rintro e y1 ⟨s1, rfl, ho, hb, hsl⟩
  have O1 : Hid (Own .u64 26 y1.heap.size y1 s1 L1 none ∧ Sl s1) := ⟨ho, hsl⟩
  have P0 : Hid (Own .u64 26 y1.heap.size y1 s0 L0 none ∧ Sl s0) := ⟨own_next O0.out.1 hb, O0.out.2⟩
  clear O0
  have O0 := P0
  clear P0
  have BD : Hid (Below w.heap.size w y1) := BC.out.trans (hb.mono BC.out.size)
  clear ho hb hsl BC
  have BC := BD
  clear BD
  go_wp2_with fail
  refine (cp64 _ L2 y1 (R2.out.1.next (BC.out)) R2.out.2 (by rw [← N2.out]; omega)).mono ?_
  rintro e y2 ⟨s2, rfl, ho, hb, hsl⟩
  have O2 : Hid (Own .u64 26 y2.heap.size y2 s2 L2 none ∧ Sl s2) := ⟨ho, hsl⟩
  have P0 : Hid (Own .u64 26 y2.heap.size y2 s0 L0 none ∧ Sl s0) := ⟨own_next O0.out.1 hb, O0.out.2⟩
  clear O0
  have O0 := P0
  clear P0
  have P1 : Hid (Own .u64 26 y2.heap.size y2 s1 L1 none ∧ Sl s1) := ⟨own_next O1.out.1 hb, O1.out.2⟩
  clear O1
  have O1 := P1
  clear P1
  have BD : Hid (Below w.heap.size w y2) := BC.out.trans (hb.mono BC.out.size)
  clear ho hb hsl BC
  have BC := BD
  clear BD
  go_wp2_with fail
  refine (cp64 _ L3 y2 (R3.out.1.next (BC.out)) R3.out.2 (by rw [← N3.out]; omega)).mono ?_
  rintro e y3 ⟨s3, rfl, ho, hb, hsl⟩
  have O3 : Hid (Own .u64 26 y3.heap.size y3 s3 L3 none ∧ Sl s3) := ⟨ho, hsl⟩
  have P0 : Hid (Own .u64 26 y3.heap.size y3 s0 L0 none ∧ Sl s0) := ⟨own_next O0.out.1 hb, O0.out.2⟩
  clear O0
  have O0 := P0
  clear P0
  have P1 : Hid (Own .u64 26 y3.heap.size y3 s1 L1 none ∧ Sl s1) := ⟨own_next O1.out.1 hb, O1.out.2⟩
  clear O1
  have O1 := P1
  clear P1
  have P2 : Hid (Own .u64 26 y3.heap.size y3 s2 L2 none ∧ Sl s2) := ⟨own_next O2.out.1 hb, O2.out.2⟩
  clear O2
  have O2 := P2
  clear P2
  have BD : Hid (Below w.heap.size w y3) := BC.out.trans (hb.mono BC.out.size)
  clear ho hb hsl BC
  have BC := BD
  clear BD
  go_wp2_with fail
  refine (cp64 _ L4 y3 (R4.out.1.next (BC.out)) R4.out.2 (by rw [← N4.out]; omega)).mono ?_
  rintro e y4 ⟨s4, rfl, ho, hb, hsl⟩
  have O4 : Hid (Own .u64 26 y4.heap.size y4 s4 L4 none ∧ Sl s4) := ⟨ho, hsl⟩
  have P0 : Hid (Own .u64 26 y4.heap.size y4 s0 L0 none ∧ Sl s0) := ⟨own_next O0.out.1 hb, O0.out.2⟩
  clear O0
  have O0 := P0
  clear P0
  have P1 : Hid (Own .u64 26 y4.heap.size y4 s1 L1 none ∧ Sl s1) := ⟨own_next O1.out.1 hb, O1.out.2⟩
  clear O1
  have O1 := P1
  clear P1
  have P2 : Hid (Own .u64 26 y4.heap.size y4 s2 L2 none ∧ Sl s2) := ⟨own_next O2.out.1 hb, O2.out.2⟩
  clear O2
  have O2 := P2
  clear P2
  have P3 : Hid (Own .u64 26 y4.heap.size y4 s3 L3 none ∧ Sl s3) := ⟨own_next O3.out.1 hb, O3.out.2⟩
  clear O3
  have O3 := P3
  clear P3
  have BD : Hid (Below w.heap.size w y4) := BC.out.trans (hb.mono BC.out.size)
  clear ho hb hsl BC
  have BC := BD
  clear BD
  go_wp2_with fail
  refine (cp64 _ L5 y4 (R5.out.1.next (BC.out)) R5.out.2 (by rw [← N5.out]; omega)).mono ?_
  rintro e y5 ⟨s5, rfl, ho, hb, hsl⟩
  have O5 : Hid (Own .u64 26 y5.heap.size y5 s5 L5 none ∧ Sl s5) := ⟨ho, hsl⟩
  have P0 : Hid (Own .u64 26 y5.heap.size y5 s0 L0 none ∧ Sl s0) := ⟨own_next O0.out.1 hb, O0.out.2⟩
  clear O0
  have O0 := P0
  clear P0
  have P1 : Hid (Own .u64 26 y5.heap.size y5 s1 L1 none ∧ Sl s1) := ⟨own_next O1.out.1 hb, O1.out.2⟩
  clear O1
  have O1 := P1
  clear P1
  have P2 : Hid (Own .u64 26 y5.heap.size y5 s2 L2 none ∧ Sl s2) := ⟨own_next O2.out.1 hb, O2.out.2⟩
  clear O2
  have O2 := P2
  clear P2
  have P3 : Hid (Own .u64 26 y5.heap.size y5 s3 L3 none ∧ Sl s3) := ⟨own_next O3.out.1 hb, O3.out.2⟩
  clear O3
  have O3 := P3
  clear P3
  have P4 : Hid (Own .u64 26 y5.heap.size y5 s4 L4 none ∧ Sl s4) := ⟨own_next O4.out.1 hb, O4.out.2⟩
  clear O4
  have O4 := P4
  clear P4
  have BD : Hid (Below w.heap.size w y5) := BC.out.trans (hb.mono BC.out.size)
  clear ho hb hsl BC
  have BC := BD
  clear BD
  go_wp2_with fail
  refine (cp32 _ L6 y5 (R6.out.1.next (BC.out)) R6.out.2 (by rw [← N6.out]; omega)).mono ?_
  rintro e y6 ⟨s6, rfl, ho, hb, hsl⟩
  have O6 : Hid (Own .u32 43 y6.heap.size y6 s6 L6 none ∧ Sl s6) := ⟨ho, hsl⟩
  have P0 : Hid (Own .u64 26 y6.heap.size y6 s0 L0 none ∧ Sl s0) := ⟨own_next O0.out.1 hb, O0.out.2⟩
  clear O0
  have O0 := P0
  clear P0
  have P1 : Hid (Own .u64 26 y6.heap.size y6 s1 L1 none ∧ Sl s1) := ⟨own_next O1.out.1 hb, O1.out.2⟩
  clear O1
  have O1 := P1
  clear P1
  have P2 : Hid (Own .u64 26 y6.heap.size y6 s2 L2 none ∧ Sl s2) := ⟨own_next O2.out.1 hb, O2.out.2⟩
  clear O2
  have O2 := P2
  clear P2
  have P3 : Hid (Own .u64 26 y6.heap.size y6 s3 L3 none ∧ Sl s3) := ⟨own_next O3.out.1 hb, O3.out.2⟩
  clear O3
  have O3 := P3
  clear P3
  have P4 : Hid (Own .u64 26 y6.heap.size y6 s4 L4 none ∧ Sl s4) := ⟨own_next O4.out.1 hb, O4.out.2⟩
  clear O4
  have O4 := P4
  clear P4
  have P5 : Hid (Own .u64 26 y6.heap.size y6 s5 L5 none ∧ Sl s5) := ⟨own_next O5.out.1 hb, O5.out.2⟩
  clear O5
  have O5 := P5
  clear P5
  have BD : Hid (Below w.heap.size w y6) := BC.out.trans (hb.mono BC.out.size)
  clear ho hb hsl BC
  have BC := BD
  clear BD
  go_wp2_with fail
  refine (cpI _ bs y6 (R8.out.1.next (BC.out)) R8.out.2 (by rw [← N8.out]; omega)).mono ?_
  rintro e y8 ⟨s8, rfl, ho, hb, hsl⟩
  have O8 : Hid (Own .i64 3 y8.heap.size y8 s8 bs none ∧ Sl s8) := ⟨ho, hsl⟩
  have P0 : Hid (Own .u64 26 y8.heap.size y8 s0 L0 none ∧ Sl s0) := ⟨own_next O0.out.1 hb, O0.out.2⟩
  clear O0
  have O0 := P0
  clear P0
  have P1 : Hid (Own .u64 26 y8.heap.size y8 s1 L1 none ∧ Sl s1) := ⟨own_next O1.out.1 hb, O1.out.2⟩
  clear O1
  have O1 := P1
  clear P1
  have P2 : Hid (Own .u64 26 y8.heap.size y8 s2 L2 none ∧ Sl s2) := ⟨own_next O2.out.1 hb, O2.out.2⟩
  clear O2
  have O2 := P2
  clear P2
  have P3 : Hid (Own .u64 26 y8.heap.size y8 s3 L3 none ∧ Sl s3) := ⟨own_next O3.out.1 hb, O3.out.2⟩
  clear O3
  have O3 := P3
  clear P3
  have P4 : Hid (Own .u64 26 y8.heap.size y8 s4 L4 none ∧ Sl s4) := ⟨own_next O4.out.1 hb, O4.out.2⟩
  clear O4
  have O4 := P4
  clear P4
  have P5 : Hid (Own .u64 26 y8.heap.size y8 s5 L5 none ∧ Sl s5) := ⟨own_next O5.out.1 hb, O5.out.2⟩
  clear O5
  have O5 := P5
  clear P5
  have P6 : Hid (Own .u32 43 y8.heap.size y8 s6 L6 none ∧ Sl s6) := ⟨own_next O6.out.1 hb, O6.out.2⟩
  clear O6
  have O6 := P6
  clear P6
  have BD : Hid (Below w.heap.size w y8) := BC.out.trans (hb.mono BC.out.size)
  clear ho hb hsl BC
  have BC := BD
  clear BD
  go_wp2_with fail
  refine (cpI _ cs y8 (R9.out.1.next (BC.out)) R9.out.2 (by rw [← N9.out]; omega)).mono ?_
  rintro e y9 ⟨s9, rfl, ho, hb, hsl⟩
  have O9 : Hid (Own .i64 3 y9.heap.size y9 s9 cs none ∧ Sl s9) := ⟨ho, hsl⟩
  have P0 : Hid (Own .u64 26 y9.heap.size y9 s0 L0 none ∧ Sl s0) := ⟨own_next O0.out.1 hb, O0.out.2⟩
  clear O0
  have O0 := P0
  clear P0
  have P1 : Hid (Own .u64 26 y9.heap.size y9 s1 L1 none ∧ Sl s1) := ⟨own_next O1.out.1 hb, O1.out.2⟩
  clear O1
  have O1 := P1
  clear P1
  have P2 : Hid (Own .u64 26 y9.heap.size y9 s2 L2 none ∧ Sl s2) := ⟨own_next O2.out.1 hb, O2.out.2⟩
  clear O2
  have O2 := P2
  clear P2
  have P3 : Hid (Own .u64 26 y9.heap.size y9 s3 L3 none ∧ Sl s3) := ⟨own_next O3.out.1 hb, O3.out.2⟩
  clear O3
  have O3 := P3
  clear P3
  have P4 : Hid (Own .u64 26 y9.heap.size y9 s4 L4 none ∧ Sl s4) := ⟨own_next O4.out.1 hb, O4.out.2⟩
  clear O4
  have O4 := P4
  clear P4
  have P5 : Hid (Own .u64 26 y9.heap.size y9 s5 L5 none ∧ Sl s5) := ⟨own_next O5.out.1 hb, O5.out.2⟩
  clear O5
  have O5 := P5
  clear P5
  have P6 : Hid (Own .u32 43 y9.heap.size y9 s6 L6 none ∧ Sl s6) := ⟨own_next O6.out.1 hb, O6.out.2⟩
  clear O6
  have O6 := P6
  clear P6
  have P8 : Hid (Own .i64 3 y9.heap.size y9 s8 bs none ∧ Sl s8) := ⟨own_next O8.out.1 hb, O8.out.2⟩
  clear O8
  have O8 := P8
  clear P8
  have BD : Hid (Below w.heap.size w y9) := BC.out.trans (hb.mono BC.out.size)
  clear ho hb hsl BC
  have BC := BD
  clear BD
  go_wp2_with fail
  refine (cp64 s0 L0 y9 (own_rdt O0.out.1) O0.out.2 (by rw [← N0.out]; omega)).mono ?_
  rintro e z0 ⟨t0, rfl, ho, hb, hsl⟩
  have T0 : Hid (Own .u64 26 z0.heap.size z0 t0 L0 none ∧ Sl t0) := ⟨ho, hsl⟩
  have P0 : Hid (Own .u64 26 z0.heap.size z0 s0 L0 none ∧ Sl s0) := ⟨own_next O0.out.1 hb, O0.out.2⟩
  clear O0
  have O0 := P0
  clear P0
  have P1 : Hid (Own .u64 26 z0.heap.size z0 s1 L1 none ∧ Sl s1) := ⟨own_next O1.out.1 hb, O1.out.2⟩
  clear O1
  have O1 := P1
  clear P1
  have P2 : Hid (Own .u64 26 z0.heap.size z0 s2 L2 none ∧ Sl s2) := ⟨own_next O2.out.1 hb, O2.out.2⟩
  clear O2
  have O2 := P2
  clear P2
  have P3 : Hid (Own .u64 26 z0.heap.size z0 s3 L3 none ∧ Sl s3) := ⟨own_next O3.out.1 hb, O3.out.2⟩
  clear O3
  have O3 := P3
  clear P3
  have P4 : Hid (Own .u64 26 z0.heap.size z0 s4 L4 none ∧ Sl s4) := ⟨own_next O4.out.1 hb, O4.out.2⟩
  clear O4
  have O4 := P4
  clear P4
  have P5 : Hid (Own .u64 26 z0.heap.size z0 s5 L5 none ∧ Sl s5) := ⟨own_next O5.out.1 hb, O5.out.2⟩
  clear O5
  have O5 := P5
  clear P5
  have P6 : Hid (Own .u32 43 z0.heap.size z0 s6 L6 none ∧ Sl s6) := ⟨own_next O6.out.1 hb, O6.out.2⟩
  clear O6
  have O6 := P6
  clear P6
  have P8 : Hid (Own .i64 3 z0.heap.size z0 s8 bs none ∧ Sl s8) := ⟨own_next O8.out.1 hb, O8.out.2⟩
  clear O8
  have O8 := P8
  clear P8
  have P9 : Hid (Own .i64 3 z0.heap.size z0 s9 cs none ∧ Sl s9) := ⟨own_next O9.out.1 hb, O9.out.2⟩
  clear O9
  have O9 := P9
  clear P9
  have BD : Hid (Below w.heap.size w z0) := BC.out.trans (hb.mono BC.out.size)
  clear ho hb hsl BC
  have BC := BD
  clear BD
  go_wp2_with fail
  refine (cp64 s1 L1 z0 (own_rdt O1.out.1) O1.out.2 (by rw [← N1.out]; omega)).mono ?_
  rintro e z1 ⟨t1, rfl, ho, hb, hsl⟩
  have T1 : Hid (Own .u64 26 z1.heap.size z1 t1 L1 none ∧ Sl t1) := ⟨ho, hsl⟩
  have P0 : Hid (Own .u64 26 z1.heap.size z1 s0 L0 none ∧ Sl s0) := ⟨own_next O0.out.1 hb, O0.out.2⟩
  clear O0
  have O0 := P0
  clear P0
  have P1 : Hid (Own .u64 26 z1.heap.size z1 s1 L1 none ∧ Sl s1) := ⟨own_next O1.out.1 hb, O1.out.2⟩
  clear O1
  have O1 := P1
  clear P1
  have P2 : Hid (Own .u64 26 z1.heap.size z1 s2 L2 none ∧ Sl s2) := ⟨own_next O2.out.1 hb, O2.out.2⟩
  clear O2
  have O2 := P2
  clear P2
  have P3 : Hid (Own .u64 26 z1.heap.size z1 s3 L3 none ∧ Sl s3) := ⟨own_next O3.out.1 hb, O3.out.2⟩
  clear O3
  have O3 := P3
  clear P3
  have P4 : Hid (Own .u64 26 z1.heap.size z1 s4 L4 none ∧ Sl s4) := ⟨own_next O4.out.1 hb, O4.out.2⟩
  clear O4
  have O4 := P4
  clear P4
  have P5 : Hid (Own .u64 26 z1.heap.size z1 s5 L5 none ∧ Sl s5) := ⟨own_next O5.out.1 hb, O5.out.2⟩
  clear O5
  have O5 := P5
  clear P5
  have P6 : Hid (Own .u32 43 z1.heap.size z1 s6 L6 none ∧ Sl s6) := ⟨own_next O6.out.1 hb, O6.out.2⟩
  clear O6
  have O6 := P6
  clear P6
  have P8 : Hid (Own .i64 3 z1.heap.size z1 s8 bs none ∧ Sl s8) := ⟨own_next O8.out.1 hb, O8.out.2⟩
  clear O8
  have O8 := P8
  clear P8
  have P9 : Hid (Own .i64 3 z1.heap.size z1 s9 cs none ∧ Sl s9) := ⟨own_next O9.out.1 hb, O9.out.2⟩
  clear O9
  have O9 := P9
  clear P9
  have P0 : Hid (Own .u64 26 z1.heap.size z1 t0 L0 none ∧ Sl t0) := ⟨own_next T0.out.1 hb, T0.out.2⟩
  clear T0
  have T0 := P0
  clear P0
  have BD : Hid (Below w.heap.size w z1) := BC.out.trans (hb.mono BC.out.size)
  clear ho hb hsl BC
  have BC := BD
  clear BD
  go_wp2_with fail
  refine (cp64 s2 L2 z1 (own_rdt O2.out.1) O2.out.2 (by rw [← N2.out]; omega)).mono ?_
  rintro e z2 ⟨t2, rfl, ho, hb, hsl⟩
  have T2 : Hid (Own .u64 26 z2.heap.size z2 t2 L2 none ∧ Sl t2) := ⟨ho, hsl⟩
  have P0 : Hid (Own .u64 26 z2.heap.size z2 s0 L0 none ∧ Sl s0) := ⟨own_next O0.out.1 hb, O0.out.2⟩
  clear O0
  have O0 := P0
  clear P0
  have P1 : Hid (Own .u64 26 z2.heap.size z2 s1 L1 none ∧ Sl s1) := ⟨own_next O1.out.1 hb, O1.out.2⟩
  clear O1
  have O1 := P1
  clear P1
  have P2 : Hid (Own .u64 26 z2.heap.size z2 s2 L2 none ∧ Sl s2) := ⟨own_next O2.out.1 hb, O2.out.2⟩
  clear O2
  have O2 := P2
  clear P2
  have P3 : Hid (Own .u64 26 z2.heap.size z2 s3 L3 none ∧ Sl s3) := ⟨own_next O3.out.1 hb, O3.out.2⟩
  clear O3
  have O3 := P3
  clear P3
  have P4 : Hid (Own .u64 26 z2.heap.size z2 s4 L4 none ∧ Sl s4) := ⟨own_next O4.out.1 hb, O4.out.2⟩
  clear O4
  have O4 := P4
  clear P4
  have P5 : Hid (Own .u64 26 z2.heap.size z2 s5 L5 none ∧ Sl s5) := ⟨own_next O5.out.1 hb, O5.out.2⟩
  clear O5
  have O5 := P5
  clear P5
  have P6 : Hid (Own .u32 43 z2.heap.size z2 s6 L6 none ∧ Sl s6) := ⟨own_next O6.out.1 hb, O6.out.2⟩
  clear O6
  have O6 := P6
  clear P6
  have P8 : Hid (Own .i64 3 z2.heap.size z2 s8 bs none ∧ Sl s8) := ⟨own_next O8.out.1 hb, O8.out.2⟩
  clear O8
  have O8 := P8
  clear P8
  have P9 : Hid (Own .i64 3 z2.heap.size z2 s9 cs none ∧ Sl s9) := ⟨own_next O9.out.1 hb, O9.out.2⟩
  clear O9
  have O9 := P9
  clear P9
  have P0 : Hid (Own .u64 26 z2.heap.size z2 t0 L0 none ∧ Sl t0) := ⟨own_next T0.out.1 hb, T0.out.2⟩
  clear T0
  have T0 := P0
  clear P0
  have P1 : Hid (Own .u64 26 z2.heap.size z2 t1 L1 none ∧ Sl t1) := ⟨own_next T1.out.1 hb, T1.out.2⟩
  clear T1
  have T1 := P1
  clear P1
  have BD : Hid (Below w.heap.size w z2) := BC.out.trans (hb.mono BC.out.size)
  clear ho hb hsl BC
  have BC := BD
  clear BD
  go_wp2_with fail
  refine (cp64 s3 L3 z2 (own_rdt O3.out.1) O3.out.2 (by rw [← N3.out]; omega)).mono ?_
  rintro e z3 ⟨t3, rfl, ho, hb, hsl⟩
  have T3 : Hid (Own .u64 26 z3.heap.size z3 t3 L3 none ∧ Sl t3) := ⟨ho, hsl⟩
  have P0 : Hid (Own .u64 26 z3.heap.size z3 s0 L0 none ∧ Sl s0) := ⟨own_next O0.out.1 hb, O0.out.2⟩
  clear O0
  have O0 := P0
  clear P0
  have P1 : Hid (Own .u64 26 z3.heap.size z3 s1 L1 none ∧ Sl s1) := ⟨own_next O1.out.1 hb, O1.out.2⟩
  clear O1
  have O1 := P1
  clear P1
  have P2 : Hid (Own .u64 26 z3.heap.size z3 s2 L2 none ∧ Sl s2) := ⟨own_next O2.out.1 hb, O2.out.2⟩
  clear O2
  have O2 := P2
  clear P2
  have P3 : Hid (Own .u64 26 z3.heap.size z3 s3 L3 none ∧ Sl s3) := ⟨own_next O3.out.1 hb, O3.out.2⟩
  clear O3
  have O3 := P3
  clear P3
  have P4 : Hid (Own .u64 26 z3.heap.size z3 s4 L4 none ∧ Sl s4) := ⟨own_next O4.out.1 hb, O4.out.2⟩
  clear O4
  have O4 := P4
  clear P4
  have P5 : Hid (Own .u64 26 z3.heap.size z3 s5 L5 none ∧ Sl s5) := ⟨own_next O5.out.1 hb, O5.out.2⟩
  clear O5
  have O5 := P5
  clear P5
  have P6 : Hid (Own .u32 43 z3.heap.size z3 s6 L6 none ∧ Sl s6) := ⟨own_next O6.out.1 hb, O6.out.2⟩
  clear O6
  have O6 := P6
  clear P6
  have P8 : Hid (Own .i64 3 z3.heap.size z3 s8 bs none ∧ Sl s8) := ⟨own_next O8.out.1 hb, O8.out.2⟩
  clear O8
  have O8 := P8
  clear P8
  have P9 : Hid (Own .i64 3 z3.heap.size z3 s9 cs none ∧ Sl s9) := ⟨own_next O9.out.1 hb, O9.out.2⟩
  clear O9
  have O9 := P9
  clear P9
  have P0 : Hid (Own .u64 26 z3.heap.size z3 t0 L0 none ∧ Sl t0) := ⟨own_next T0.out.1 hb, T0.out.2⟩
  clear T0
  have T0 := P0
  clear P0
  have P1 : Hid (Own .u64 26 z3.heap.size z3 t1 L1 none ∧ Sl t1) := ⟨own_next T1.out.1 hb, T1.out.2⟩
  clear T1
  have T1 := P1
  clear P1
  have P2 : Hid (Own .u64 26 z3.heap.size z3 t2 L2 none ∧ Sl t2) := ⟨own_next T2.out.1 hb, T2.out.2⟩
  clear T2
  have T2 := P2
  clear P2
  have BD : Hid (Below w.heap.size w z3) := BC.out.trans (hb.mono BC.out.size)
  clear ho hb hsl BC
  have BC := BD
  clear BD
  go_wp2_with fail
  refine (cp64 s4 L4 z3 (own_rdt O4.out.1) O4.out.2 (by rw [← N4.out]; omega)).mono ?_
  rintro e z4 ⟨t4, rfl, ho, hb, hsl⟩
  have T4 : Hid (Own .u64 26 z4.heap.size z4 t4 L4 none ∧ Sl t4) := ⟨ho, hsl⟩
  have P0 : Hid (Own .u64 26 z4.heap.size z4 s0 L0 none ∧ Sl s0) := ⟨own_next O0.out.1 hb, O0.out.2⟩
  clear O0
  have O0 := P0
  clear P0
  have P1 : Hid (Own .u64 26 z4.heap.size z4 s1 L1 none ∧ Sl s1) := ⟨own_next O1.out.1 hb, O1.out.2⟩
  clear O1
  have O1 := P1
  clear P1
  have P2 : Hid (Own .u64 26 z4.heap.size z4 s2 L2 none ∧ Sl s2) := ⟨own_next O2.out.1 hb, O2.out.2⟩
  clear O2
  have O2 := P2
  clear P2
  have P3 : Hid (Own .u64 26 z4.heap.size z4 s3 L3 none ∧ Sl s3) := ⟨own_next O3.out.1 hb, O3.out.2⟩
  clear O3
  have O3 := P3
  clear P3
  have P4 : Hid (Own .u64 26 z4.heap.size z4 s4 L4 none ∧ Sl s4) := ⟨own_next O4.out.1 hb, O4.out.2⟩
  clear O4
  have O4 := P4
  clear P4
  have P5 : Hid (Own .u64 26 z4.heap.size z4 s5 L5 none ∧ Sl s5) := ⟨own_next O5.out.1 hb, O5.out.2⟩
  clear O5
  have O5 := P5
  clear P5
  have P6 : Hid (Own .u32 43 z4.heap.size z4 s6 L6 none ∧ Sl s6) := ⟨own_next O6.out.1 hb, O6.out.2⟩
  clear O6
  have O6 := P6
  clear P6
  have P8 : Hid (Own .i64 3 z4.heap.size z4 s8 bs none ∧ Sl s8) := ⟨own_next O8.out.1 hb, O8.out.2⟩
  clear O8
  have O8 := P8
  clear P8
  have P9 : Hid (Own .i64 3 z4.heap.size z4 s9 cs none ∧ Sl s9) := ⟨own_next O9.out.1 hb, O9.out.2⟩
  clear O9
  have O9 := P9
  clear P9
  have P0 : Hid (Own .u64 26 z4.heap.size z4 t0 L0 none ∧ Sl t0) := ⟨own_next T0.out.1 hb, T0.out.2⟩
  clear T0
  have T0 := P0
  clear P0
  have P1 : Hid (Own .u64 26 z4.heap.size z4 t1 L1 none ∧ Sl t1) := ⟨own_next T1.out.1 hb, T1.out.2⟩
  clear T1
  have T1 := P1
  clear P1
  have P2 : Hid (Own .u64 26 z4.heap.size z4 t2 L2 none ∧ Sl t2) := ⟨own_next T2.out.1 hb, T2.out.2⟩
  clear T2
  have T2 := P2
  clear P2
  have P3 : Hid (Own .u64 26 z4.heap.size z4 t3 L3 none ∧ Sl t3) := ⟨own_next T3.out.1 hb, T3.out.2⟩
  clear T3
  have T3 := P3
  clear P3
  have BD : Hid (Below w.heap.size w z4) := BC.out.trans (hb.mono BC.out.size)
  clear ho hb hsl BC
  have BC := BD
  clear BD
  go_wp2_with fail
  refine (cp64 s5 L5 z4 (own_rdt O5.out.1) O5.out.2 (by rw [← N5.out]; omega)).mono ?_
  rintro e z5 ⟨t5, rfl, ho, hb, hsl⟩
  have T5 : Hid (Own .u64 26 z5.heap.size z5 t5 L5 none ∧ Sl t5) := ⟨ho, hsl⟩
  have P0 : Hid (Own .u64 26 z5.heap.size z5 s0 L0 none ∧ Sl s0) := ⟨own_next O0.out.1 hb, O0.out.2⟩
  clear O0
  have O0 := P0
  clear P0
  have P1 : Hid (Own .u64 26 z5.heap.size z5 s1 L1 none ∧ Sl s1) := ⟨own_next O1.out.1 hb, O1.out.2⟩
  clear O1
  have O1 := P1
  clear P1
  have P2 : Hid (Own .u64 26 z5.heap.size z5 s2 L2 none ∧ Sl s2) := ⟨own_next O2.out.1 hb, O2.out.2⟩
  clear O2
  have O2 := P2
  clear P2
  have P3 : Hid (Own .u64 26 z5.heap.size z5 s3 L3 none ∧ Sl s3) := ⟨own_next O3.out.1 hb, O3.out.2⟩
  clear O3
  have O3 := P3
  clear P3
  have P4 : Hid (Own .u64 26 z5.heap.size z5 s4 L4 none ∧ Sl s4) := ⟨own_next O4.out.1 hb, O4.out.2⟩
  clear O4
  have O4 := P4
  clear P4
  have P5 : Hid (Own .u64 26 z5.heap.size z5 s5 L5 none ∧ Sl s5) := ⟨own_next O5.out.1 hb, O5.out.2⟩
  clear O5
  have O5 := P5
  clear P5
  have P6 : Hid (Own .u32 43 z5.heap.size z5 s6 L6 none ∧ Sl s6) := ⟨own_next O6.out.1 hb, O6.out.2⟩
  clear O6
  have O6 := P6
  clear P6
  have P8 : Hid (Own .i64 3 z5.heap.size z5 s8 bs none ∧ Sl s8) := ⟨own_next O8.out.1 hb, O8.out.2⟩
  clear O8
  have O8 := P8
  clear P8
  have P9 : Hid (Own .i64 3 z5.heap.size z5 s9 cs none ∧ Sl s9) := ⟨own_next O9.out.1 hb, O9.out.2⟩
  clear O9
  have O9 := P9
  clear P9
  have P0 : Hid (Own .u64 26 z5.heap.size z5 t0 L0 none ∧ Sl t0) := ⟨own_next T0.out.1 hb, T0.out.2⟩
  clear T0
  have T0 := P0
  clear P0
  have P1 : Hid (Own .u64 26 z5.heap.size z5 t1 L1 none ∧ Sl t1) := ⟨own_next T1.out.1 hb, T1.out.2⟩
  clear T1
  have T1 := P1
  clear P1
  have P2 : Hid (Own .u64 26 z5.heap.size z5 t2 L2 none ∧ Sl t2) := ⟨own_next T2.out.1 hb, T2.out.2⟩
  clear T2
  have T2 := P2
  clear P2
  have P3 : Hid (Own .u64 26 z5.heap.size z5 t3 L3 none ∧ Sl t3) := ⟨own_next T3.out.1 hb, T3.out.2⟩
  clear T3
  have T3 := P3
  clear P3
  have P4 : Hid (Own .u64 26 z5.heap.size z5 t4 L4 none ∧ Sl t4) := ⟨own_next T4.out.1 hb, T4.out.2⟩
  clear T4
  have T4 := P4
  clear P4
  have BD : Hid (Below w.heap.size w z5) := BC.out.trans (hb.mono BC.out.size)
  clear ho hb hsl BC
  have BC := BD
  clear BD
  go_wp2_with fail
  refine (cp32 s6 L6 z5 (own_rdt O6.out.1) O6.out.2 (by rw [← N6.out]; omega)).mono ?_
  rintro e z6 ⟨t6, rfl, ho, hb, hsl⟩
  have T6 : Hid (Own .u32 43 z6.heap.size z6 t6 L6 none ∧ Sl t6) := ⟨ho, hsl⟩
  have P0 : Hid (Own .u64 26 z6.heap.size z6 s0 L0 none ∧ Sl s0) := ⟨own_next O0.out.1 hb, O0.out.2⟩
  clear O0
  have O0 := P0
  clear P0
  have P1 : Hid (Own .u64 26 z6.heap.size z6 s1 L1 none ∧ Sl s1) := ⟨own_next O1.out.1 hb, O1.out.2⟩
  clear O1
  have O1 := P1
  clear P1
  have P2 : Hid (Own .u64 26 z6.heap.size z6 s2 L2 none ∧ Sl s2) := ⟨own_next O2.out.1 hb, O2.out.2⟩
  clear O2
  have O2 := P2
  clear P2
  have P3 : Hid (Own .u64 26 z6.heap.size z6 s3 L3 none ∧ Sl s3) := ⟨own_next O3.out.1 hb, O3.out.2⟩
  clear O3
  have O3 := P3
  clear P3
  have P4 : Hid (Own .u64 26 z6.heap.size z6 s4 L4 none ∧ Sl s4) := ⟨own_next O4.out.1 hb, O4.out.2⟩
  clear O4
  have O4 := P4
  clear P4
  have P5 : Hid (Own .u64 26 z6.heap.size z6 s5 L5 none ∧ Sl s5) := ⟨own_next O5.out.1 hb, O5.out.2⟩
  clear O5
  have O5 := P5
  clear P5
  have P6 : Hid (Own .u32 43 z6.heap.size z6 s6 L6 none ∧ Sl s6) := ⟨own_next O6.out.1 hb, O6.out.2⟩
  clear O6
  have O6 := P6
  clear P6
  have P8 : Hid (Own .i64 3 z6.heap.size z6 s8 bs none ∧ Sl s8) := ⟨own_next O8.out.1 hb, O8.out.2⟩
  clear O8
  have O8 := P8
  clear P8
  have P9 : Hid (Own .i64 3 z6.heap.size z6 s9 cs none ∧ Sl s9) := ⟨own_next O9.out.1 hb, O9.out.2⟩
  clear O9
  have O9 := P9
  clear P9
  have P0 : Hid (Own .u64 26 z6.heap.size z6 t0 L0 none ∧ Sl t0) := ⟨own_next T0.out.1 hb, T0.out.2⟩
  clear T0
  have T0 := P0
  clear P0
  have P1 : Hid (Own .u64 26 z6.heap.size z6 t1 L1 none ∧ Sl t1) := ⟨own_next T1.out.1 hb, T1.out.2⟩
  clear T1
  have T1 := P1
  clear P1
  have P2 : Hid (Own .u64 26 z6.heap.size z6 t2 L2 none ∧ Sl t2) := ⟨own_next T2.out.1 hb, T2.out.2⟩
  clear T2
  have T2 := P2
  clear P2
  have P3 : Hid (Own .u64 26 z6.heap.size z6 t3 L3 none ∧ Sl t3) := ⟨own_next T3.out.1 hb, T3.out.2⟩
  clear T3
  have T3 := P3
  clear P3
  have P4 : Hid (Own .u64 26 z6.heap.size z6 t4 L4 none ∧ Sl t4) := ⟨own_next T4.out.1 hb, T4.out.2⟩
  clear T4
  have T4 := P4
  clear P4
  have P5 : Hid (Own .u64 26 z6.heap.size z6 t5 L5 none ∧ Sl t5) := ⟨own_next T5.out.1 hb, T5.out.2⟩
  clear T5
  have T5 := P5
  clear P5
  have BD : Hid (Below w.heap.size w z6) := BC.out.trans (hb.mono BC.out.size)
  clear ho hb hsl BC
  have BC := BD
  clear BD
  go_wp2_with fail
  refine (shim_any t0 t1 t2 t3 t4 t5 t6 s8 s9 pos kept bs cs L0 L1 L2 L3 L6 z6 hp0 hp1 (own_rdt O8.out.1) (own_rdt O9.out.1) (I1.out (by trivial)).1 (I2.out (by trivial)).1 (I1.out (by trivial)).2 (I2.out (by trivial)).2 T0.out.1 T1.out.1 T2.out.1 T3.out.1 T6.out.1 (by rw [← N0.out]; omega) (by rw [← N1.out]; omega) (by rw [← N2.out, ← N8.out]; omega) (by rw [← N3.out, ← N9.out]; omega) (by rw [← N6.out]; omega) T4.out.2 T5.out.2).mono ?_
  rintro e W ⟨g0, g1, g2, g3, g6, rfl, G0, G1, G2, G3, G6, hb⟩
  have hBW : Below w.heap.size w W := BC.out.trans (hb.mono BC.out.size)
  obtain ⟨x8, k8, e8, -, -⟩ := id (own_rdt O8.out.1)
  obtain ⟨x9, k9, e9, -, -⟩ := id (own_rdt O9.out.1)
  rw [← N8.out] at e8
  rw [← N9.out] at e9
  subst e8 e9
  have HB0 : Hid (Bun W s0 s1 s2 s3 s4 s5 s6 (.slice x8 n8 k8) (.slice x9 n9 k9) g0 g1 g2 g3 t4 t5 g6 L0 L1 L2 L3 L4 L5 L6 bs cs (L0 ++ pgone (pos * 4294967296) bs cs) (L1 ++ pgone (pos * 4294967296) cs bs) (L2 ++ (less bs.tail cs.tail).map (ent (pos * 4294967296))) (L3 ++ (less cs.tail bs.tail).map (ent (pos * 4294967296))) (L6 ++ if chg bs cs kept then [pos] else [])) :=
    ⟨⟨⟨(own_rdt O0.out.1).next hb, (own_rdt O1.out.1).next hb, (own_rdt O2.out.1).next hb, (own_rdt O3.out.1).next hb, (own_rdt O4.out.1).next hb, (own_rdt O5.out.1).next hb, (own_rdt O6.out.1).next hb⟩, (own_rdt O8.out.1).next hb, (own_rdt O9.out.1).next hb⟩, G0, G1, G2, G3, (own_rdt T4.out.1).next hb, (own_rdt T5.out.1).next hb, G6⟩
  have HBW : Hid (Below w.heap.size w W) := hBW
  have HN : Hid (Nn bs ∧ Nn cs ∧ Asc bs.tail ∧ Asc cs.tail) := ⟨(I1.out (by trivial)).1, (I2.out (by trivial)).1, (I1.out (by trivial)).2, (I2.out (by trivial)).2⟩
  have bdb := taker_bd HN.out.1
  have bdc := taker_bd HN.out.2.1
  obtain ⟨tb, HTB⟩ : ∃ t, Hid (taker bs = t) := ⟨_, rfl⟩
  obtain ⟨ta, HTA⟩ : ∃ t, Hid (taker cs = t) := ⟨_, rfl⟩
  rw [HTB.out] at bdb
  rw [HTA.out] at bdc
  clear hb hBW G0 G1 G2 G3 G6 O0 O1 O2 O3 O4 O5 O6 O8 O9 T0 T1 T2 T3 T4 T5 T6 I1 I2 BC B2
  clear R0 R1 R2 R3 R4 R5 R6 R8 R9 X8
  have h8a : (0 : Int) < (n8 : Int) := by omega
  have h8b : ((n8 : Int) == 0) = false := by simp; omega
  obtain ⟨b8, f8, rfl, hc8⟩ := rdt_head HB0.out.1.2.1 h8
  rw [HTB.out] at hc8
  have htb : 0 ≤ tb := by
    obtain ⟨y, ys, hy⟩ : ∃ y ys, bs = y :: ys := by
      cases bs with
      | nil => have := N8.out; simp at this; omega
      | cons y ys => exact ⟨y, ys, rfl⟩
    have h1 := HTB.out
    have h2 := HN.out.1
    rw [hy] at h1 h2
    simp only [taker] at h1
    have := h2 y (by simp)
    omega
  have hwb := wrap_id tb htb bdb.2
  have h9a : (0 : Int) < (n9 : Int) := by omega
  have h9b : ((n9 : Int) == 0) = false := by simp; omega
  obtain ⟨b9, f9, rfl, hc9⟩ := rdt_head HB0.out.1.2.2 h9
  rw [HTA.out] at hc9
  have hta : 0 ≤ ta := by
    obtain ⟨y, ys, hy⟩ : ∃ y ys, cs = y :: ys := by
      cases cs with
      | nil => have := N9.out; simp at this; omega
      | cons y ys => exact ⟨y, ys, rfl⟩
    have h1 := HTA.out
    have h2 := HN.out.2.1
    rw [hy] at h1 h2
    simp only [taker] at h1
    have := h2 y (by simp)
    omega
  have hwa := wrap_id ta hta bdc.2
  have ht1 : (ta != tb) = false := by have := HEQ.out.1; rw [HTB.out, HTA.out] at this; simpa using this.symm
  have ht2 : (tb != ta) = false := by have := HEQ.out.1; rw [HTB.out, HTA.out] at this; simpa using this
  have PG1 : Hid (pgone (pos * 4294967296) bs cs = []) := by
    show _ = _
    unfold pgone
    rw [HTB.out, HTA.out]
    exact if_neg (fun h => h.1 (by simpa using ht2))
  have PG2 : Hid (pgone (pos * 4294967296) cs bs = []) := by
    show _ = _
    unfold pgone
    rw [HTB.out, HTA.out]
    exact if_neg (fun h => h.1 (by simpa using ht1))
  obtain ⟨xw, mw, kw, hsl8, hR8, hmw⟩ := rdt_tail HB0.out.1.2.1 h8
  have WW : Hid (RdT .i64 W (.slice xw mw kw) bs.tail) := hR8
  have HMW : Hid (mw = bs.tail.length) := hmw
  have hmwl : mw ≤ n8 := by rw [hmw, N8.out]; simp
  clear hR8 hmw
  obtain ⟨xi, mi, ki, hsl9, hR9, hmi⟩ := rdt_tail HB0.out.1.2.2 h9
  have WI : Hid (RdT .i64 W (.slice xi mi ki) cs.tail) := hR9
  have HMI : Hid (mi = cs.tail.length) := hmi
  have hmil : mi ≤ n9 := by rw [hmi, N9.out]; simp
  clear hR9 hmi
  go_wp2_with fail
  go_quiet (fail)
  go_wp2_with fail
  go_quiet (fail)
  go_wp2_with fail
  go_loopw [35, 37] (fun t i wr => ∃ (k : Nat) (rg : Option Nat), k ≤ mw ∧ i = .int .i64 (k : Int) ∧ Hid (Own .u64 26 W.heap.size wr t ((less (bs.tail.take k) cs.tail).map (ent (pos * 4294967296))) rg ∧ Below W.heap.size W wr)) (fun _ i _ => mw - (intOf i).toNat)
  case atStart => exact ⟨0, none, Nat.zero_le _, rfl, own_nil _ _ _ _, ⟨rfl, rfl, rfl, Nat.le_refl _, fun _ _ => rfl⟩⟩
  case round =>
    obtain ⟨k, rg, hk, rfl, HR⟩ := hrel
    by_cases hlt : k < mw
    case pos =>
      have hrw := WW.out.next HR.out.2
      have hro := WI.out.next HR.out.2
      obtain ⟨av, cv, ev, -, hpv⟩ := hrw
      obtain ⟨bw, ow, hav, -, -, hcw⟩ := hpv (by rw [← HMW.out]; omega)
      obtain rfl : xw = some ⟨bw, ow, none⟩ := by cases ev; exact hav
      obtain ⟨x, hx⟩ : ∃ x, bs.tail.getD k 0 = x := ⟨_, rfl⟩
      have HX : Hid (bs.tail.getD k 0 = x) := hx
      have hxb := nn_get (nn_tail HN.out.1) k (by rw [← HMW.out]; exact hlt)
      rw [hx] at hxb
      have hwx := wrap_id x hxb.1 hxb.2
      have hcx : wr.cell? ⟨bw, ow + k, none⟩ = some (.int .i64 x) := by rw [← hx]; exact hcw k (by rw [← HMW.out]; exact hlt)
      have hkm : (k : Int) < (mw : Int) := by omega
      have HH := has_any (.slice xi mi ki) cs.tail x wr hro HN.out.2.2.2 (by rw [← HMI.out]; omega)
      have hbs := HR.out.2.size
      clear ev hpv hav hcw hx hro
      go_wp2_with fail
      refine HH.mono ?_
      rintro e wq ⟨rfl, hwq⟩
      have hwq2 := hwq.symm
      subst hwq2
      clear hwq
      cases hh : has cs.tail x
      case true =>
        have HQ := hide2 hh True.intro
        clear hh
        go_wp2
        go_roundw
        case rel => exact ⟨k + 1, rg, by omega, by go_num, round_has HR.out.1 (by rw [← HMW.out]; exact hlt) (by rw [HX.out]; exact HQ.out.1), HR.out.2⟩
        case measure => simp [intOf]; omega
      case false =>
        have HQ := hide2 hh True.intro
        clear hh
        have hll : ((less (bs.tail.take k) cs.tail).map (ent (pos * 4294967296))).length ≤ 10000000 := by
          have h1 := less_len (bs.tail.take k) cs.tail
          have h2 := List.length_take_le k bs.tail
          simp only [List.length_map]; omega
        go_wp2_with (at_builtin; refine wpList_append_mine (by rfl) _ _ _ (by rfl) Try.underlying29 Try.info26 (by decide) W.heap.size _ u35 ((less (bs.tail.take k) cs.tail).map (ent (pos * 4294967296))) rg (by rfl) (by exact HR.out.1.alloc hbs _) (by simp; omega) hll _ _ (ent (pos * 4294967296) x) (by rfl) (by exact one_cell _ _ _) ?_; intro ge cape wn hown hgrow hrow hlt3; have HO2 := hide2 hown hgrow; clear hown hgrow hrow hlt3)
        go_roundw
        case rel =>
          have hra := round_app HX.out HO2.out.1 (by rw [← HMW.out]; exact hlt) HQ.out.1
          rw [List.length_map] at hra
          refine ⟨k + 1, some ge, by omega, by go_num, hra, ?_⟩
          exact HR.out.2.trans (below_app (grown_qa _ rfl rfl rfl rfl) HO2.out.2 hbs (fun g h => (HR.out.1.low g h).1))
        case measure => simp [intOf]; omega
    case neg =>
      obtain ⟨w3, rfl⟩ : ∃ v : World, v = wr := ⟨_, rfl⟩
      have hkm : mw = k := by omega
      subst hkm
      have hb3 := HR.out.2
      have WT3 : Hid (RdT .u64 w3 u35 ((less bs.tail cs.tail).map (ent (pos * 4294967296)))) := by
        have h := HR.out.1.rd hb3.size
        rw [List.take_of_length_le (by rw [← HMW.out]; exact Nat.le_refl _)] at h
        exact h.weaken (fun _ _ _ => trivial)
      obtain ⟨v35, hv35⟩ : ∃ v, v = u35 := ⟨_, rfl⟩
      rw [← hv35] at WT3
      rw [← hv35]
      clear hv35 HR
      have HBX : Hid (Bun w3 s0 s1 s2 s3 s4 s5 s6 (.slice (some ⟨b8, f8, none⟩) n8 k8) (.slice (some ⟨b9, f9, none⟩) n9 k9) g0 g1 g2 g3 t4 t5 g6 L0 L1 L2 L3 L4 L5 L6 bs cs (L0 ++ pgone (pos * 4294967296) bs cs) (L1 ++ pgone (pos * 4294967296) cs bs) (L2 ++ (less bs.tail cs.tail).map (ent (pos * 4294967296))) (L3 ++ (less cs.tail bs.tail).map (ent (pos * 4294967296))) (L6 ++ if chg bs cs kept then [pos] else [])) := HB0.out.next hb3
      clear HB0
      have HB0 := HBX
      clear HBX
      have HBX : Hid (Below w.heap.size w w3) := HBW.out.trans (hb3.mono HBW.out.size)
      clear HBW
      have HBW := HBX
      clear HBX
      have HBX : Hid (RdT .i64 w3 (.slice xw mw kw) bs.tail) := WW.out.next hb3
      clear WW
      have WW := HBX
      clear HBX
      have HBX : Hid (RdT .i64 w3 (.slice xi mi ki) cs.tail) := WI.out.next hb3
      clear WI
      have WI := HBX
      clear HBX
      have HBX : w3.cell? ⟨b8, f8, none⟩ = some (.int .i64 tb) := (hb3.cell (p := ⟨b8, f8, none⟩) (World.block_lt_of_cell? _ _ hc8)).trans hc8
      clear hc8
      have hc8 := HBX
      clear HBX
      have HBX : w3.cell? ⟨b9, f9, none⟩ = some (.int .i64 ta) := (hb3.cell (p := ⟨b9, f9, none⟩) (World.block_lt_of_cell? _ _ hc9)).trans hc9
      clear hc9
      have hc9 := HBX
      clear HBX
      clear hb3
      go_wp2_with fail
      go_loopw [36, 38] (fun t i wr => ∃ (k : Nat) (rg : Option Nat), k ≤ mi ∧ i = .int .i64 (k : Int) ∧ Hid (Own .u64 26 w3.heap.size wr t ((less (cs.tail.take k) bs.tail).map (ent (pos * 4294967296))) rg ∧ Below w3.heap.size w3 wr)) (fun _ i _ => mi - (intOf i).toNat)
      case atStart => exact ⟨0, none, Nat.zero_le _, rfl, own_nil _ _ _ _, ⟨rfl, rfl, rfl, Nat.le_refl _, fun _ _ => rfl⟩⟩
      case round =>
        obtain ⟨k, rg, hk, rfl, HR⟩ := hrel
        by_cases hlt : k < mi
        case pos =>
          have hrw := WI.out.next HR.out.2
          have hro := WW.out.next HR.out.2
          obtain ⟨av, cv, ev, -, hpv⟩ := hrw
          obtain ⟨bw, ow, hav, -, -, hcw⟩ := hpv (by rw [← HMI.out]; omega)
          obtain rfl : xi = some ⟨bw, ow, none⟩ := by cases ev; exact hav
          obtain ⟨x, hx⟩ : ∃ x, cs.tail.getD k 0 = x := ⟨_, rfl⟩
          have HX : Hid (cs.tail.getD k 0 = x) := hx
          have hxb := nn_get (nn_tail HN.out.2.1) k (by rw [← HMI.out]; exact hlt)
          rw [hx] at hxb
          have hwx := wrap_id x hxb.1 hxb.2
          have hcx : wr.cell? ⟨bw, ow + k, none⟩ = some (.int .i64 x) := by rw [← hx]; exact hcw k (by rw [← HMI.out]; exact hlt)
          have hkm : (k : Int) < (mi : Int) := by omega
          have HH := has_any (.slice xw mw kw) bs.tail x wr hro HN.out.2.2.1 (by rw [← HMW.out]; omega)
          have hbs := HR.out.2.size
          clear ev hpv hav hcw hx hro
          go_wp2_with fail
          refine HH.mono ?_
          rintro e wq ⟨rfl, hwq⟩
          have hwq2 := hwq.symm
          subst hwq2
          clear hwq
          cases hh : has bs.tail x
          case true =>
            have HQ := hide2 hh True.intro
            clear hh
            go_wp2
            go_roundw
            case rel => exact ⟨k + 1, rg, by omega, by go_num, round_has HR.out.1 (by rw [← HMI.out]; exact hlt) (by rw [HX.out]; exact HQ.out.1), HR.out.2⟩
            case measure => simp [intOf]; omega
          case false =>
            have HQ := hide2 hh True.intro
            clear hh
            have hll : ((less (cs.tail.take k) bs.tail).map (ent (pos * 4294967296))).length ≤ 10000000 := by
              have h1 := less_len (cs.tail.take k) bs.tail
              have h2 := List.length_take_le k cs.tail
              simp only [List.length_map]; omega
            go_wp2_with (at_builtin; refine wpList_append_mine (by rfl) _ _ _ (by rfl) Try.underlying29 Try.info26 (by decide) w3.heap.size _ u36 ((less (cs.tail.take k) bs.tail).map (ent (pos * 4294967296))) rg (by rfl) (by exact HR.out.1.alloc hbs _) (by simp; omega) hll _ _ (ent (pos * 4294967296) x) (by rfl) (by exact one_cell _ _ _) ?_; intro ge cape wn hown hgrow hrow hlt3; have HO2 := hide2 hown hgrow; clear hown hgrow hrow hlt3)
            go_roundw
            case rel =>
              have hra := round_app HX.out HO2.out.1 (by rw [← HMI.out]; exact hlt) HQ.out.1
              rw [List.length_map] at hra
              refine ⟨k + 1, some ge, by omega, by go_num, hra, ?_⟩
              exact HR.out.2.trans (below_app (grown_qa _ rfl rfl rfl rfl) HO2.out.2 hbs (fun g h => (HR.out.1.low g h).1))
            case measure => simp [intOf]; omega
        case neg =>
          obtain ⟨w4, rfl⟩ : ∃ v : World, v = wr := ⟨_, rfl⟩
          have hkm : mi = k := by omega
          subst hkm
          have hb4 := HR.out.2
          have WT4 : Hid (RdT .u64 w4 u36 ((less cs.tail bs.tail).map (ent (pos * 4294967296)))) := by
            have h := HR.out.1.rd hb4.size
            rw [List.take_of_length_le (by rw [← HMI.out]; exact Nat.le_refl _)] at h
            exact h.weaken (fun _ _ _ => trivial)
          obtain ⟨v36, hv36⟩ : ∃ v, v = u36 := ⟨_, rfl⟩
          rw [← hv36] at WT4
          rw [← hv36]
          clear hv36 HR
          have HBX : Hid (Bun w4 s0 s1 s2 s3 s4 s5 s6 (.slice (some ⟨b8, f8, none⟩) n8 k8) (.slice (some ⟨b9, f9, none⟩) n9 k9) g0 g1 g2 g3 t4 t5 g6 L0 L1 L2 L3 L4 L5 L6 bs cs (L0 ++ pgone (pos * 4294967296) bs cs) (L1 ++ pgone (pos * 4294967296) cs bs) (L2 ++ (less bs.tail cs.tail).map (ent (pos * 4294967296))) (L3 ++ (less cs.tail bs.tail).map (ent (pos * 4294967296))) (L6 ++ if chg bs cs kept then [pos] else [])) := HB0.out.next hb4
          clear HB0
          have HB0 := HBX
          clear HBX
          have HBX : Hid (Below w.heap.size w w4) := HBW.out.trans (hb4.mono HBW.out.size)
          clear HBW
          have HBW := HBX
          clear HBX
          have HBX : Hid (RdT .i64 w4 (.slice xw mw kw) bs.tail) := WW.out.next hb4
          clear WW
          have WW := HBX
          clear HBX
          have HBX : Hid (RdT .i64 w4 (.slice xi mi ki) cs.tail) := WI.out.next hb4
          clear WI
          have WI := HBX
          clear HBX
          have HBX : Hid (RdT .u64 w4 v35 ((less bs.tail cs.tail).map (ent (pos * 4294967296)))) := WT3.out.next hb4
          clear WT3
          have WT3 := HBX
          clear HBX
          have HBX : w4.cell? ⟨b8, f8, none⟩ = some (.int .i64 tb) := (hb4.cell (p := ⟨b8, f8, none⟩) (World.block_lt_of_cell? _ _ hc8)).trans hc8
          clear hc8
          have hc8 := HBX
          clear HBX
          have HBX : w4.cell? ⟨b9, f9, none⟩ = some (.int .i64 ta) := (hb4.cell (p := ⟨b9, f9, none⟩) (World.block_lt_of_cell? _ _ hc9)).trans hc9
          clear hc9
          have hc9 := HBX
          clear HBX
          clear hb4
          by_cases hk : ta = kept
          case pos =>
            have hk1 : (ta == kept) = true := by simpa using hk
            have hk0 : 0 ≤ kept := by omega
            have HCH : Hid (chg bs cs kept = false) := by
              show _ = _
              unfold chg
              rw [HTB.out, HTA.out]
              exact decide_eq_false (by omega)
            clear hk
            go_wp2_with fail
            skip
            have tE1 : (L0 ++ pgone (pos * 4294967296) bs cs) = L0 ++ [] := by rw [PG1.out]
            have tE2 : ((L0 ++ pgone (pos * 4294967296) bs cs)).length ≤ 4000000 := by have h1 := pgone_len (pos * 4294967296) bs cs; have h2 := N0.out; rw [List.length_append]; omega
            have tE3 : RdS (fun _ => True) .u64 w4 (.slice none 0 0) [] := rdt_nil _ _
            have tE := ext64 g0 s0 (.slice none 0 0) (L0 ++ pgone (pos * 4294967296) bs cs) L0 [] w4 HB0.out.2.1 HB0.out.1.1.1 tE3 tE1 tE2
            clear tE1 tE2 tE3
            refine tE.mono ?_
            clear tE
            rintro e wE0 ⟨rfl, qE, hqE⟩
            have hbE : Below w4.heap.size w4 wE0 := by rw [hqE]; exact below_drewN (Below.refl _ _) _
            clear hqE
            have HBX : Hid (Bun wE0 s0 s1 s2 s3 s4 s5 s6 (.slice (some ⟨b8, f8, none⟩) n8 k8) (.slice (some ⟨b9, f9, none⟩) n9 k9) g0 g1 g2 g3 t4 t5 g6 L0 L1 L2 L3 L4 L5 L6 bs cs (L0 ++ pgone (pos * 4294967296) bs cs) (L1 ++ pgone (pos * 4294967296) cs bs) (L2 ++ (less bs.tail cs.tail).map (ent (pos * 4294967296))) (L3 ++ (less cs.tail bs.tail).map (ent (pos * 4294967296))) (L6 ++ if chg bs cs kept then [pos] else [])) := HB0.out.next hbE
            clear HB0
            have HB0 := HBX
            clear HBX
            have HBX : Hid (Below w.heap.size w wE0) := HBW.out.trans (hbE.mono HBW.out.size)
            clear HBW
            have HBW := HBX
            clear HBX
            have HBX : Hid (RdT .i64 wE0 (.slice xw mw kw) bs.tail) := WW.out.next hbE
            clear WW
            have WW := HBX
            clear HBX
            have HBX : Hid (RdT .i64 wE0 (.slice xi mi ki) cs.tail) := WI.out.next hbE
            clear WI
            have WI := HBX
            clear HBX
            have HBX : Hid (RdT .u64 wE0 v35 ((less bs.tail cs.tail).map (ent (pos * 4294967296)))) := WT3.out.next hbE
            clear WT3
            have WT3 := HBX
            clear HBX
            have HBX : Hid (RdT .u64 wE0 v36 ((less cs.tail bs.tail).map (ent (pos * 4294967296)))) := WT4.out.next hbE
            clear WT4
            have WT4 := HBX
            clear HBX
            have HBX : wE0.cell? ⟨b8, f8, none⟩ = some (.int .i64 tb) := (hbE.cell (p := ⟨b8, f8, none⟩) (World.block_lt_of_cell? _ _ hc8)).trans hc8
            clear hc8
            have hc8 := HBX
            clear HBX
            have HBX : wE0.cell? ⟨b9, f9, none⟩ = some (.int .i64 ta) := (hbE.cell (p := ⟨b9, f9, none⟩) (World.block_lt_of_cell? _ _ hc9)).trans hc9
            clear hc9
            have hc9 := HBX
            clear HBX
            clear hbE
            go_wp2_with fail
            have tE1 : (L1 ++ pgone (pos * 4294967296) cs bs) = L1 ++ [] := by rw [PG2.out]
            have tE2 : ((L1 ++ pgone (pos * 4294967296) cs bs)).length ≤ 4000000 := by have h1 := pgone_len (pos * 4294967296) cs bs; have h2 := N1.out; rw [List.length_append]; omega
            have tE3 : RdS (fun _ => True) .u64 wE0 (.slice none 0 0) [] := rdt_nil _ _
            have tE := ext64 g1 s1 (.slice none 0 0) (L1 ++ pgone (pos * 4294967296) cs bs) L1 [] wE0 HB0.out.2.2.1 HB0.out.1.1.2.1 tE3 tE1 tE2
            clear tE1 tE2 tE3
            refine tE.mono ?_
            clear tE
            rintro e wE1 ⟨rfl, qE, hqE⟩
            have hbE : Below wE0.heap.size wE0 wE1 := by rw [hqE]; exact below_drewN (Below.refl _ _) _
            clear hqE
            have HBX : Hid (Bun wE1 s0 s1 s2 s3 s4 s5 s6 (.slice (some ⟨b8, f8, none⟩) n8 k8) (.slice (some ⟨b9, f9, none⟩) n9 k9) g0 g1 g2 g3 t4 t5 g6 L0 L1 L2 L3 L4 L5 L6 bs cs (L0 ++ pgone (pos * 4294967296) bs cs) (L1 ++ pgone (pos * 4294967296) cs bs) (L2 ++ (less bs.tail cs.tail).map (ent (pos * 4294967296))) (L3 ++ (less cs.tail bs.tail).map (ent (pos * 4294967296))) (L6 ++ if chg bs cs kept then [pos] else [])) := HB0.out.next hbE
            clear HB0
            have HB0 := HBX
            clear HBX
            have HBX : Hid (Below w.heap.size w wE1) := HBW.out.trans (hbE.mono HBW.out.size)
            clear HBW
            have HBW := HBX
            clear HBX
            have HBX : Hid (RdT .i64 wE1 (.slice xw mw kw) bs.tail) := WW.out.next hbE
            clear WW
            have WW := HBX
            clear HBX
            have HBX : Hid (RdT .i64 wE1 (.slice xi mi ki) cs.tail) := WI.out.next hbE
            clear WI
            have WI := HBX
            clear HBX
            have HBX : Hid (RdT .u64 wE1 v35 ((less bs.tail cs.tail).map (ent (pos * 4294967296)))) := WT3.out.next hbE
            clear WT3
            have WT3 := HBX
            clear HBX
            have HBX : Hid (RdT .u64 wE1 v36 ((less cs.tail bs.tail).map (ent (pos * 4294967296)))) := WT4.out.next hbE
            clear WT4
            have WT4 := HBX
            clear HBX
            have HBX : wE1.cell? ⟨b8, f8, none⟩ = some (.int .i64 tb) := (hbE.cell (p := ⟨b8, f8, none⟩) (World.block_lt_of_cell? _ _ hc8)).trans hc8
            clear hc8
            have hc8 := HBX
            clear HBX
            have HBX : wE1.cell? ⟨b9, f9, none⟩ = some (.int .i64 ta) := (hbE.cell (p := ⟨b9, f9, none⟩) (World.block_lt_of_cell? _ _ hc9)).trans hc9
            clear hc9
            have hc9 := HBX
            clear HBX
            clear hbE
            go_wp2_with fail
            have tE1 : (L2 ++ (less bs.tail cs.tail).map (ent (pos * 4294967296))) = L2 ++ ((less bs.tail cs.tail).map (ent (pos * 4294967296))) := rfl
            have tE2 : ((L2 ++ (less bs.tail cs.tail).map (ent (pos * 4294967296)))).length ≤ 4000000 := by have h1 := less_len bs.tail cs.tail; have h2 := N2.out; have h3 := HMW.out; rw [List.length_append, List.length_map]; omega
            have tE3 : RdS (fun _ => True) .u64 wE1 v35 ((less bs.tail cs.tail).map (ent (pos * 4294967296))) := WT3.out
            have tE := ext64 g2 s2 v35 (L2 ++ (less bs.tail cs.tail).map (ent (pos * 4294967296))) L2 ((less bs.tail cs.tail).map (ent (pos * 4294967296))) wE1 HB0.out.2.2.2.1 HB0.out.1.1.2.2.1 tE3 tE1 tE2
            clear tE1 tE2 tE3
            refine tE.mono ?_
            clear tE
            rintro e wE2 ⟨rfl, qE, hqE⟩
            have hbE : Below wE1.heap.size wE1 wE2 := by rw [hqE]; exact below_drewN (Below.refl _ _) _
            clear hqE
            have HBX : Hid (Bun wE2 s0 s1 s2 s3 s4 s5 s6 (.slice (some ⟨b8, f8, none⟩) n8 k8) (.slice (some ⟨b9, f9, none⟩) n9 k9) g0 g1 g2 g3 t4 t5 g6 L0 L1 L2 L3 L4 L5 L6 bs cs (L0 ++ pgone (pos * 4294967296) bs cs) (L1 ++ pgone (pos * 4294967296) cs bs) (L2 ++ (less bs.tail cs.tail).map (ent (pos * 4294967296))) (L3 ++ (less cs.tail bs.tail).map (ent (pos * 4294967296))) (L6 ++ if chg bs cs kept then [pos] else [])) := HB0.out.next hbE
            clear HB0
            have HB0 := HBX
            clear HBX
            have HBX : Hid (Below w.heap.size w wE2) := HBW.out.trans (hbE.mono HBW.out.size)
            clear HBW
            have HBW := HBX
            clear HBX
            have HBX : Hid (RdT .i64 wE2 (.slice xw mw kw) bs.tail) := WW.out.next hbE
            clear WW
            have WW := HBX
            clear HBX
            have HBX : Hid (RdT .i64 wE2 (.slice xi mi ki) cs.tail) := WI.out.next hbE
            clear WI
            have WI := HBX
            clear HBX
            have HBX : Hid (RdT .u64 wE2 v35 ((less bs.tail cs.tail).map (ent (pos * 4294967296)))) := WT3.out.next hbE
            clear WT3
            have WT3 := HBX
            clear HBX
            have HBX : Hid (RdT .u64 wE2 v36 ((less cs.tail bs.tail).map (ent (pos * 4294967296)))) := WT4.out.next hbE
            clear WT4
            have WT4 := HBX
            clear HBX
            have HBX : wE2.cell? ⟨b8, f8, none⟩ = some (.int .i64 tb) := (hbE.cell (p := ⟨b8, f8, none⟩) (World.block_lt_of_cell? _ _ hc8)).trans hc8
            clear hc8
            have hc8 := HBX
            clear HBX
            have HBX : wE2.cell? ⟨b9, f9, none⟩ = some (.int .i64 ta) := (hbE.cell (p := ⟨b9, f9, none⟩) (World.block_lt_of_cell? _ _ hc9)).trans hc9
            clear hc9
            have hc9 := HBX
            clear HBX
            clear hbE
            go_wp2_with fail
            have tE1 : (L3 ++ (less cs.tail bs.tail).map (ent (pos * 4294967296))) = L3 ++ ((less cs.tail bs.tail).map (ent (pos * 4294967296))) := rfl
            have tE2 : ((L3 ++ (less cs.tail bs.tail).map (ent (pos * 4294967296)))).length ≤ 4000000 := by have h1 := less_len cs.tail bs.tail; have h2 := N3.out; have h3 := HMI.out; rw [List.length_append, List.length_map]; omega
            have tE3 : RdS (fun _ => True) .u64 wE2 v36 ((less cs.tail bs.tail).map (ent (pos * 4294967296))) := WT4.out
            have tE := ext64 g3 s3 v36 (L3 ++ (less cs.tail bs.tail).map (ent (pos * 4294967296))) L3 ((less cs.tail bs.tail).map (ent (pos * 4294967296))) wE2 HB0.out.2.2.2.2.1 HB0.out.1.1.2.2.2.1 tE3 tE1 tE2
            clear tE1 tE2 tE3
            refine tE.mono ?_
            clear tE
            rintro e wE3 ⟨rfl, qE, hqE⟩
            have hbE : Below wE2.heap.size wE2 wE3 := by rw [hqE]; exact below_drewN (Below.refl _ _) _
            clear hqE
            have HBX : Hid (Bun wE3 s0 s1 s2 s3 s4 s5 s6 (.slice (some ⟨b8, f8, none⟩) n8 k8) (.slice (some ⟨b9, f9, none⟩) n9 k9) g0 g1 g2 g3 t4 t5 g6 L0 L1 L2 L3 L4 L5 L6 bs cs (L0 ++ pgone (pos * 4294967296) bs cs) (L1 ++ pgone (pos * 4294967296) cs bs) (L2 ++ (less bs.tail cs.tail).map (ent (pos * 4294967296))) (L3 ++ (less cs.tail bs.tail).map (ent (pos * 4294967296))) (L6 ++ if chg bs cs kept then [pos] else [])) := HB0.out.next hbE
            clear HB0
            have HB0 := HBX
            clear HBX
            have HBX : Hid (Below w.heap.size w wE3) := HBW.out.trans (hbE.mono HBW.out.size)
            clear HBW
            have HBW := HBX
            clear HBX
            have HBX : Hid (RdT .i64 wE3 (.slice xw mw kw) bs.tail) := WW.out.next hbE
            clear WW
            have WW := HBX
            clear HBX
            have HBX : Hid (RdT .i64 wE3 (.slice xi mi ki) cs.tail) := WI.out.next hbE
            clear WI
            have WI := HBX
            clear HBX
            have HBX : Hid (RdT .u64 wE3 v35 ((less bs.tail cs.tail).map (ent (pos * 4294967296)))) := WT3.out.next hbE
            clear WT3
            have WT3 := HBX
            clear HBX
            have HBX : Hid (RdT .u64 wE3 v36 ((less cs.tail bs.tail).map (ent (pos * 4294967296)))) := WT4.out.next hbE
            clear WT4
            have WT4 := HBX
            clear HBX
            have HBX : wE3.cell? ⟨b8, f8, none⟩ = some (.int .i64 tb) := (hbE.cell (p := ⟨b8, f8, none⟩) (World.block_lt_of_cell? _ _ hc8)).trans hc8
            clear hc8
            have hc8 := HBX
            clear HBX
            have HBX : wE3.cell? ⟨b9, f9, none⟩ = some (.int .i64 ta) := (hbE.cell (p := ⟨b9, f9, none⟩) (World.block_lt_of_cell? _ _ hc9)).trans hc9
            clear hc9
            have hc9 := HBX
            clear HBX
            clear hbE
            go_wp2_with fail
            have tE1 : L4 = L4 ++ [] := (List.append_nil _).symm
            have tE2 : (L4).length ≤ 4000000 := by rw [← N4.out]; omega
            have tE3 : RdS (fun _ => True) .u64 wE3 (.slice none 0 0) [] := rdt_nil _ _
            have tE := ext64 t4 s4 (.slice none 0 0) L4 L4 [] wE3 HB0.out.2.2.2.2.2.1 HB0.out.1.1.2.2.2.2.1 tE3 tE1 tE2
            clear tE1 tE2 tE3
            refine tE.mono ?_
            clear tE
            rintro e wE4 ⟨rfl, qE, hqE⟩
            have hbE : Below wE3.heap.size wE3 wE4 := by rw [hqE]; exact below_drewN (Below.refl _ _) _
            clear hqE
            have HBX : Hid (Bun wE4 s0 s1 s2 s3 s4 s5 s6 (.slice (some ⟨b8, f8, none⟩) n8 k8) (.slice (some ⟨b9, f9, none⟩) n9 k9) g0 g1 g2 g3 t4 t5 g6 L0 L1 L2 L3 L4 L5 L6 bs cs (L0 ++ pgone (pos * 4294967296) bs cs) (L1 ++ pgone (pos * 4294967296) cs bs) (L2 ++ (less bs.tail cs.tail).map (ent (pos * 4294967296))) (L3 ++ (less cs.tail bs.tail).map (ent (pos * 4294967296))) (L6 ++ if chg bs cs kept then [pos] else [])) := HB0.out.next hbE
            clear HB0
            have HB0 := HBX
            clear HBX
            have HBX : Hid (Below w.heap.size w wE4) := HBW.out.trans (hbE.mono HBW.out.size)
            clear HBW
            have HBW := HBX
            clear HBX
            have HBX : Hid (RdT .i64 wE4 (.slice xw mw kw) bs.tail) := WW.out.next hbE
            clear WW
            have WW := HBX
            clear HBX
            have HBX : Hid (RdT .i64 wE4 (.slice xi mi ki) cs.tail) := WI.out.next hbE
            clear WI
            have WI := HBX
            clear HBX
            have HBX : Hid (RdT .u64 wE4 v35 ((less bs.tail cs.tail).map (ent (pos * 4294967296)))) := WT3.out.next hbE
            clear WT3
            have WT3 := HBX
            clear HBX
            have HBX : Hid (RdT .u64 wE4 v36 ((less cs.tail bs.tail).map (ent (pos * 4294967296)))) := WT4.out.next hbE
            clear WT4
            have WT4 := HBX
            clear HBX
            have HBX : wE4.cell? ⟨b8, f8, none⟩ = some (.int .i64 tb) := (hbE.cell (p := ⟨b8, f8, none⟩) (World.block_lt_of_cell? _ _ hc8)).trans hc8
            clear hc8
            have hc8 := HBX
            clear HBX
            have HBX : wE4.cell? ⟨b9, f9, none⟩ = some (.int .i64 ta) := (hbE.cell (p := ⟨b9, f9, none⟩) (World.block_lt_of_cell? _ _ hc9)).trans hc9
            clear hc9
            have hc9 := HBX
            clear HBX
            clear hbE
            go_wp2_with fail
            have tE1 : L5 = L5 ++ [] := (List.append_nil _).symm
            have tE2 : (L5).length ≤ 4000000 := by rw [← N5.out]; omega
            have tE3 : RdS (fun _ => True) .u64 wE4 (.slice none 0 0) [] := rdt_nil _ _
            have tE := ext64 t5 s5 (.slice none 0 0) L5 L5 [] wE4 HB0.out.2.2.2.2.2.2.1 HB0.out.1.1.2.2.2.2.2.1 tE3 tE1 tE2
            clear tE1 tE2 tE3
            refine tE.mono ?_
            clear tE
            rintro e wE5 ⟨rfl, qE, hqE⟩
            have hbE : Below wE4.heap.size wE4 wE5 := by rw [hqE]; exact below_drewN (Below.refl _ _) _
            clear hqE
            have HBX : Hid (Bun wE5 s0 s1 s2 s3 s4 s5 s6 (.slice (some ⟨b8, f8, none⟩) n8 k8) (.slice (some ⟨b9, f9, none⟩) n9 k9) g0 g1 g2 g3 t4 t5 g6 L0 L1 L2 L3 L4 L5 L6 bs cs (L0 ++ pgone (pos * 4294967296) bs cs) (L1 ++ pgone (pos * 4294967296) cs bs) (L2 ++ (less bs.tail cs.tail).map (ent (pos * 4294967296))) (L3 ++ (less cs.tail bs.tail).map (ent (pos * 4294967296))) (L6 ++ if chg bs cs kept then [pos] else [])) := HB0.out.next hbE
            clear HB0
            have HB0 := HBX
            clear HBX
            have HBX : Hid (Below w.heap.size w wE5) := HBW.out.trans (hbE.mono HBW.out.size)
            clear HBW
            have HBW := HBX
            clear HBX
            have HBX : Hid (RdT .i64 wE5 (.slice xw mw kw) bs.tail) := WW.out.next hbE
            clear WW
            have WW := HBX
            clear HBX
            have HBX : Hid (RdT .i64 wE5 (.slice xi mi ki) cs.tail) := WI.out.next hbE
            clear WI
            have WI := HBX
            clear HBX
            have HBX : Hid (RdT .u64 wE5 v35 ((less bs.tail cs.tail).map (ent (pos * 4294967296)))) := WT3.out.next hbE
            clear WT3
            have WT3 := HBX
            clear HBX
            have HBX : Hid (RdT .u64 wE5 v36 ((less cs.tail bs.tail).map (ent (pos * 4294967296)))) := WT4.out.next hbE
            clear WT4
            have WT4 := HBX
            clear HBX
            have HBX : wE5.cell? ⟨b8, f8, none⟩ = some (.int .i64 tb) := (hbE.cell (p := ⟨b8, f8, none⟩) (World.block_lt_of_cell? _ _ hc8)).trans hc8
            clear hc8
            have hc8 := HBX
            clear HBX
            have HBX : wE5.cell? ⟨b9, f9, none⟩ = some (.int .i64 ta) := (hbE.cell (p := ⟨b9, f9, none⟩) (World.block_lt_of_cell? _ _ hc9)).trans hc9
            clear hc9
            have hc9 := HBX
            clear HBX
            clear hbE
            go_wp2_with fail
            have tE1 : (L6 ++ if chg bs cs kept then [pos] else []) = L6 ++ [] := by rw [HCH.out]; rfl
            have tE2 : (L6 ++ if chg bs cs kept then [pos] else []).length ≤ 4000000 := by have h1 := chg_len (chg bs cs kept) pos; have h2 := N6.out; rw [List.length_append]; omega
            have tE3 : RdS (fun _ => True) .u32 wE5 (.slice none 0 0) [] := rdt_nil _ _
            have tE := ext32 g6 s6 (.slice none 0 0) (L6 ++ if chg bs cs kept then [pos] else []) L6 [] wE5 HB0.out.2.2.2.2.2.2.2 HB0.out.1.1.2.2.2.2.2.2 tE3 tE1 tE2
            clear tE1 tE2 tE3
            refine tE.mono ?_
            clear tE
            rintro e wZ ⟨rfl, qE, hqE⟩
            go_wp2
            go_ret
            exact ⟨rfl, below_drewN HBW.out _⟩
          case neg =>
            by_cases hn : 0 ≤ kept
            case pos =>
              have hk1 : (ta == kept) = false := by simpa using hk
              have HCH : Hid (chg bs cs kept = true) := by
                show _ = _
                unfold chg
                rw [HTB.out, HTA.out]
                exact decide_eq_true (by omega)
              clear hk
              go_wp2_with (at_builtin; refine wpList_append_mine (by rfl) _ _ _ (by rfl) Try.underlying42 Try.info43 (by decide) w4.heap.size _ (.slice none 0 0) [] none (by rfl) (by exact own_nil _ _ _ _) (by simp) (by decide) _ _ pos (by rfl) (by exact one_cell _ _ _) ?_; intro e5 cap5 w5 hown hgrow hrow hlt)
              have hb5 : Below w4.heap.size w4 w5 := by
                refine below_app ?_ hgrow (Nat.le_refl _) (fun g h => by cases h)
                exact grown_qa _ rfl rfl rfl rfl
              have WT5 : Hid (RdT .u32 w5 (.slice (some ⟨e5, 0, none⟩) 1 cap5) [pos]) := hown.rd_some.weaken (fun _ _ _ => trivial)
              clear hown hgrow hrow hlt
              have HBX : Hid (Bun w5 s0 s1 s2 s3 s4 s5 s6 (.slice (some ⟨b8, f8, none⟩) n8 k8) (.slice (some ⟨b9, f9, none⟩) n9 k9) g0 g1 g2 g3 t4 t5 g6 L0 L1 L2 L3 L4 L5 L6 bs cs (L0 ++ pgone (pos * 4294967296) bs cs) (L1 ++ pgone (pos * 4294967296) cs bs) (L2 ++ (less bs.tail cs.tail).map (ent (pos * 4294967296))) (L3 ++ (less cs.tail bs.tail).map (ent (pos * 4294967296))) (L6 ++ if chg bs cs kept then [pos] else [])) := HB0.out.next hb5
              clear HB0
              have HB0 := HBX
              clear HBX
              have HBX : Hid (Below w.heap.size w w5) := HBW.out.trans (hb5.mono HBW.out.size)
              clear HBW
              have HBW := HBX
              clear HBX
              have HBX : Hid (RdT .i64 w5 (.slice xw mw kw) bs.tail) := WW.out.next hb5
              clear WW
              have WW := HBX
              clear HBX
              have HBX : Hid (RdT .i64 w5 (.slice xi mi ki) cs.tail) := WI.out.next hb5
              clear WI
              have WI := HBX
              clear HBX
              have HBX : Hid (RdT .u64 w5 v35 ((less bs.tail cs.tail).map (ent (pos * 4294967296)))) := WT3.out.next hb5
              clear WT3
              have WT3 := HBX
              clear HBX
              have HBX : Hid (RdT .u64 w5 v36 ((less cs.tail bs.tail).map (ent (pos * 4294967296)))) := WT4.out.next hb5
              clear WT4
              have WT4 := HBX
              clear HBX
              have HBX : w5.cell? ⟨b8, f8, none⟩ = some (.int .i64 tb) := (hb5.cell (p := ⟨b8, f8, none⟩) (World.block_lt_of_cell? _ _ hc8)).trans hc8
              clear hc8
              have hc8 := HBX
              clear HBX
              have HBX : w5.cell? ⟨b9, f9, none⟩ = some (.int .i64 ta) := (hb5.cell (p := ⟨b9, f9, none⟩) (World.block_lt_of_cell? _ _ hc9)).trans hc9
              clear hc9
              have hc9 := HBX
              clear HBX
              clear hb5
              skip
              have tE1 : (L0 ++ pgone (pos * 4294967296) bs cs) = L0 ++ [] := by rw [PG1.out]
              have tE2 : ((L0 ++ pgone (pos * 4294967296) bs cs)).length ≤ 4000000 := by have h1 := pgone_len (pos * 4294967296) bs cs; have h2 := N0.out; rw [List.length_append]; omega
              have tE3 : RdS (fun _ => True) .u64 w5 (.slice none 0 0) [] := rdt_nil _ _
              have tE := ext64 g0 s0 (.slice none 0 0) (L0 ++ pgone (pos * 4294967296) bs cs) L0 [] w5 HB0.out.2.1 HB0.out.1.1.1 tE3 tE1 tE2
              clear tE1 tE2 tE3
              refine tE.mono ?_
              clear tE
              rintro e wE0 ⟨rfl, qE, hqE⟩
              have hbE : Below w5.heap.size w5 wE0 := by rw [hqE]; exact below_drewN (Below.refl _ _) _
              clear hqE
              have HBX : Hid (Bun wE0 s0 s1 s2 s3 s4 s5 s6 (.slice (some ⟨b8, f8, none⟩) n8 k8) (.slice (some ⟨b9, f9, none⟩) n9 k9) g0 g1 g2 g3 t4 t5 g6 L0 L1 L2 L3 L4 L5 L6 bs cs (L0 ++ pgone (pos * 4294967296) bs cs) (L1 ++ pgone (pos * 4294967296) cs bs) (L2 ++ (less bs.tail cs.tail).map (ent (pos * 4294967296))) (L3 ++ (less cs.tail bs.tail).map (ent (pos * 4294967296))) (L6 ++ if chg bs cs kept then [pos] else [])) := HB0.out.next hbE
              clear HB0
              have HB0 := HBX
              clear HBX
              have HBX : Hid (Below w.heap.size w wE0) := HBW.out.trans (hbE.mono HBW.out.size)
              clear HBW
              have HBW := HBX
              clear HBX
              have HBX : Hid (RdT .i64 wE0 (.slice xw mw kw) bs.tail) := WW.out.next hbE
              clear WW
              have WW := HBX
              clear HBX
              have HBX : Hid (RdT .i64 wE0 (.slice xi mi ki) cs.tail) := WI.out.next hbE
              clear WI
              have WI := HBX
              clear HBX
              have HBX : Hid (RdT .u64 wE0 v35 ((less bs.tail cs.tail).map (ent (pos * 4294967296)))) := WT3.out.next hbE
              clear WT3
              have WT3 := HBX
              clear HBX
              have HBX : Hid (RdT .u64 wE0 v36 ((less cs.tail bs.tail).map (ent (pos * 4294967296)))) := WT4.out.next hbE
              clear WT4
              have WT4 := HBX
              clear HBX
              have HBX : Hid (RdT .u32 wE0 (.slice (some ⟨e5, 0, none⟩) 1 cap5) [pos]) := WT5.out.next hbE
              clear WT5
              have WT5 := HBX
              clear HBX
              have HBX : wE0.cell? ⟨b8, f8, none⟩ = some (.int .i64 tb) := (hbE.cell (p := ⟨b8, f8, none⟩) (World.block_lt_of_cell? _ _ hc8)).trans hc8
              clear hc8
              have hc8 := HBX
              clear HBX
              have HBX : wE0.cell? ⟨b9, f9, none⟩ = some (.int .i64 ta) := (hbE.cell (p := ⟨b9, f9, none⟩) (World.block_lt_of_cell? _ _ hc9)).trans hc9
              clear hc9
              have hc9 := HBX
              clear HBX
              clear hbE
              go_wp2_with fail
              have tE1 : (L1 ++ pgone (pos * 4294967296) cs bs) = L1 ++ [] := by rw [PG2.out]
              have tE2 : ((L1 ++ pgone (pos * 4294967296) cs bs)).length ≤ 4000000 := by have h1 := pgone_len (pos * 4294967296) cs bs; have h2 := N1.out; rw [List.length_append]; omega
              have tE3 : RdS (fun _ => True) .u64 wE0 (.slice none 0 0) [] := rdt_nil _ _
              have tE := ext64 g1 s1 (.slice none 0 0) (L1 ++ pgone (pos * 4294967296) cs bs) L1 [] wE0 HB0.out.2.2.1 HB0.out.1.1.2.1 tE3 tE1 tE2
              clear tE1 tE2 tE3
              refine tE.mono ?_
              clear tE
              rintro e wE1 ⟨rfl, qE, hqE⟩
              have hbE : Below wE0.heap.size wE0 wE1 := by rw [hqE]; exact below_drewN (Below.refl _ _) _
              clear hqE
              have HBX : Hid (Bun wE1 s0 s1 s2 s3 s4 s5 s6 (.slice (some ⟨b8, f8, none⟩) n8 k8) (.slice (some ⟨b9, f9, none⟩) n9 k9) g0 g1 g2 g3 t4 t5 g6 L0 L1 L2 L3 L4 L5 L6 bs cs (L0 ++ pgone (pos * 4294967296) bs cs) (L1 ++ pgone (pos * 4294967296) cs bs) (L2 ++ (less bs.tail cs.tail).map (ent (pos * 4294967296))) (L3 ++ (less cs.tail bs.tail).map (ent (pos * 4294967296))) (L6 ++ if chg bs cs kept then [pos] else [])) := HB0.out.next hbE
              clear HB0
              have HB0 := HBX
              clear HBX
              have HBX : Hid (Below w.heap.size w wE1) := HBW.out.trans (hbE.mono HBW.out.size)
              clear HBW
              have HBW := HBX
              clear HBX
              have HBX : Hid (RdT .i64 wE1 (.slice xw mw kw) bs.tail) := WW.out.next hbE
              clear WW
              have WW := HBX
              clear HBX
              have HBX : Hid (RdT .i64 wE1 (.slice xi mi ki) cs.tail) := WI.out.next hbE
              clear WI
              have WI := HBX
              clear HBX
              have HBX : Hid (RdT .u64 wE1 v35 ((less bs.tail cs.tail).map (ent (pos * 4294967296)))) := WT3.out.next hbE
              clear WT3
              have WT3 := HBX
              clear HBX
              have HBX : Hid (RdT .u64 wE1 v36 ((less cs.tail bs.tail).map (ent (pos * 4294967296)))) := WT4.out.next hbE
              clear WT4
              have WT4 := HBX
              clear HBX
              have HBX : Hid (RdT .u32 wE1 (.slice (some ⟨e5, 0, none⟩) 1 cap5) [pos]) := WT5.out.next hbE
              clear WT5
              have WT5 := HBX
              clear HBX
              have HBX : wE1.cell? ⟨b8, f8, none⟩ = some (.int .i64 tb) := (hbE.cell (p := ⟨b8, f8, none⟩) (World.block_lt_of_cell? _ _ hc8)).trans hc8
              clear hc8
              have hc8 := HBX
              clear HBX
              have HBX : wE1.cell? ⟨b9, f9, none⟩ = some (.int .i64 ta) := (hbE.cell (p := ⟨b9, f9, none⟩) (World.block_lt_of_cell? _ _ hc9)).trans hc9
              clear hc9
              have hc9 := HBX
              clear HBX
              clear hbE
              go_wp2_with fail
              have tE1 : (L2 ++ (less bs.tail cs.tail).map (ent (pos * 4294967296))) = L2 ++ ((less bs.tail cs.tail).map (ent (pos * 4294967296))) := rfl
              have tE2 : ((L2 ++ (less bs.tail cs.tail).map (ent (pos * 4294967296)))).length ≤ 4000000 := by have h1 := less_len bs.tail cs.tail; have h2 := N2.out; have h3 := HMW.out; rw [List.length_append, List.length_map]; omega
              have tE3 : RdS (fun _ => True) .u64 wE1 v35 ((less bs.tail cs.tail).map (ent (pos * 4294967296))) := WT3.out
              have tE := ext64 g2 s2 v35 (L2 ++ (less bs.tail cs.tail).map (ent (pos * 4294967296))) L2 ((less bs.tail cs.tail).map (ent (pos * 4294967296))) wE1 HB0.out.2.2.2.1 HB0.out.1.1.2.2.1 tE3 tE1 tE2
              clear tE1 tE2 tE3
              refine tE.mono ?_
              clear tE
              rintro e wE2 ⟨rfl, qE, hqE⟩
              have hbE : Below wE1.heap.size wE1 wE2 := by rw [hqE]; exact below_drewN (Below.refl _ _) _
              clear hqE
              have HBX : Hid (Bun wE2 s0 s1 s2 s3 s4 s5 s6 (.slice (some ⟨b8, f8, none⟩) n8 k8) (.slice (some ⟨b9, f9, none⟩) n9 k9) g0 g1 g2 g3 t4 t5 g6 L0 L1 L2 L3 L4 L5 L6 bs cs (L0 ++ pgone (pos * 4294967296) bs cs) (L1 ++ pgone (pos * 4294967296) cs bs) (L2 ++ (less bs.tail cs.tail).map (ent (pos * 4294967296))) (L3 ++ (less cs.tail bs.tail).map (ent (pos * 4294967296))) (L6 ++ if chg bs cs kept then [pos] else [])) := HB0.out.next hbE
              clear HB0
              have HB0 := HBX
              clear HBX
              have HBX : Hid (Below w.heap.size w wE2) := HBW.out.trans (hbE.mono HBW.out.size)
              clear HBW
              have HBW := HBX
              clear HBX
              have HBX : Hid (RdT .i64 wE2 (.slice xw mw kw) bs.tail) := WW.out.next hbE
              clear WW
              have WW := HBX
              clear HBX
              have HBX : Hid (RdT .i64 wE2 (.slice xi mi ki) cs.tail) := WI.out.next hbE
              clear WI
              have WI := HBX
              clear HBX
              have HBX : Hid (RdT .u64 wE2 v35 ((less bs.tail cs.tail).map (ent (pos * 4294967296)))) := WT3.out.next hbE
              clear WT3
              have WT3 := HBX
              clear HBX
              have HBX : Hid (RdT .u64 wE2 v36 ((less cs.tail bs.tail).map (ent (pos * 4294967296)))) := WT4.out.next hbE
              clear WT4
              have WT4 := HBX
              clear HBX
              have HBX : Hid (RdT .u32 wE2 (.slice (some ⟨e5, 0, none⟩) 1 cap5) [pos]) := WT5.out.next hbE
              clear WT5
              have WT5 := HBX
              clear HBX
              have HBX : wE2.cell? ⟨b8, f8, none⟩ = some (.int .i64 tb) := (hbE.cell (p := ⟨b8, f8, none⟩) (World.block_lt_of_cell? _ _ hc8)).trans hc8
              clear hc8
              have hc8 := HBX
              clear HBX
              have HBX : wE2.cell? ⟨b9, f9, none⟩ = some (.int .i64 ta) := (hbE.cell (p := ⟨b9, f9, none⟩) (World.block_lt_of_cell? _ _ hc9)).trans hc9
              clear hc9
              have hc9 := HBX
              clear HBX
              clear hbE
              go_wp2_with fail
              have tE1 : (L3 ++ (less cs.tail bs.tail).map (ent (pos * 4294967296))) = L3 ++ ((less cs.tail bs.tail).map (ent (pos * 4294967296))) := rfl
              have tE2 : ((L3 ++ (less cs.tail bs.tail).map (ent (pos * 4294967296)))).length ≤ 4000000 := by have h1 := less_len cs.tail bs.tail; have h2 := N3.out; have h3 := HMI.out; rw [List.length_append, List.length_map]; omega
              have tE3 : RdS (fun _ => True) .u64 wE2 v36 ((less cs.tail bs.tail).map (ent (pos * 4294967296))) := WT4.out
              have tE := ext64 g3 s3 v36 (L3 ++ (less cs.tail bs.tail).map (ent (pos * 4294967296))) L3 ((less cs.tail bs.tail).map (ent (pos * 4294967296))) wE2 HB0.out.2.2.2.2.1 HB0.out.1.1.2.2.2.1 tE3 tE1 tE2
              clear tE1 tE2 tE3
              refine tE.mono ?_
              clear tE
              rintro e wE3 ⟨rfl, qE, hqE⟩
              have hbE : Below wE2.heap.size wE2 wE3 := by rw [hqE]; exact below_drewN (Below.refl _ _) _
              clear hqE
              have HBX : Hid (Bun wE3 s0 s1 s2 s3 s4 s5 s6 (.slice (some ⟨b8, f8, none⟩) n8 k8) (.slice (some ⟨b9, f9, none⟩) n9 k9) g0 g1 g2 g3 t4 t5 g6 L0 L1 L2 L3 L4 L5 L6 bs cs (L0 ++ pgone (pos * 4294967296) bs cs) (L1 ++ pgone (pos * 4294967296) cs bs) (L2 ++ (less bs.tail cs.tail).map (ent (pos * 4294967296))) (L3 ++ (less cs.tail bs.tail).map (ent (pos * 4294967296))) (L6 ++ if chg bs cs kept then [pos] else [])) := HB0.out.next hbE
              clear HB0
              have HB0 := HBX
              clear HBX
              have HBX : Hid (Below w.heap.size w wE3) := HBW.out.trans (hbE.mono HBW.out.size)
              clear HBW
              have HBW := HBX
              clear HBX
              have HBX : Hid (RdT .i64 wE3 (.slice xw mw kw) bs.tail) := WW.out.next hbE
              clear WW
              have WW := HBX
              clear HBX
              have HBX : Hid (RdT .i64 wE3 (.slice xi mi ki) cs.tail) := WI.out.next hbE
              clear WI
              have WI := HBX
              clear HBX
              have HBX : Hid (RdT .u64 wE3 v35 ((less bs.tail cs.tail).map (ent (pos * 4294967296)))) := WT3.out.next hbE
              clear WT3
              have WT3 := HBX
              clear HBX
              have HBX : Hid (RdT .u64 wE3 v36 ((less cs.tail bs.tail).map (ent (pos * 4294967296)))) := WT4.out.next hbE
              clear WT4
              have WT4 := HBX
              clear HBX
              have HBX : Hid (RdT .u32 wE3 (.slice (some ⟨e5, 0, none⟩) 1 cap5) [pos]) := WT5.out.next hbE
              clear WT5
              have WT5 := HBX
              clear HBX
              have HBX : wE3.cell? ⟨b8, f8, none⟩ = some (.int .i64 tb) := (hbE.cell (p := ⟨b8, f8, none⟩) (World.block_lt_of_cell? _ _ hc8)).trans hc8
              clear hc8
              have hc8 := HBX
              clear HBX
              have HBX : wE3.cell? ⟨b9, f9, none⟩ = some (.int .i64 ta) := (hbE.cell (p := ⟨b9, f9, none⟩) (World.block_lt_of_cell? _ _ hc9)).trans hc9
              clear hc9
              have hc9 := HBX
              clear HBX
              clear hbE
              go_wp2_with fail
              have tE1 : L4 = L4 ++ [] := (List.append_nil _).symm
              have tE2 : (L4).length ≤ 4000000 := by rw [← N4.out]; omega
              have tE3 : RdS (fun _ => True) .u64 wE3 (.slice none 0 0) [] := rdt_nil _ _
              have tE := ext64 t4 s4 (.slice none 0 0) L4 L4 [] wE3 HB0.out.2.2.2.2.2.1 HB0.out.1.1.2.2.2.2.1 tE3 tE1 tE2
              clear tE1 tE2 tE3
              refine tE.mono ?_
              clear tE
              rintro e wE4 ⟨rfl, qE, hqE⟩
              have hbE : Below wE3.heap.size wE3 wE4 := by rw [hqE]; exact below_drewN (Below.refl _ _) _
              clear hqE
              have HBX : Hid (Bun wE4 s0 s1 s2 s3 s4 s5 s6 (.slice (some ⟨b8, f8, none⟩) n8 k8) (.slice (some ⟨b9, f9, none⟩) n9 k9) g0 g1 g2 g3 t4 t5 g6 L0 L1 L2 L3 L4 L5 L6 bs cs (L0 ++ pgone (pos * 4294967296) bs cs) (L1 ++ pgone (pos * 4294967296) cs bs) (L2 ++ (less bs.tail cs.tail).map (ent (pos * 4294967296))) (L3 ++ (less cs.tail bs.tail).map (ent (pos * 4294967296))) (L6 ++ if chg bs cs kept then [pos] else [])) := HB0.out.next hbE
              clear HB0
              have HB0 := HBX
              clear HBX
              have HBX : Hid (Below w.heap.size w wE4) := HBW.out.trans (hbE.mono HBW.out.size)
              clear HBW
              have HBW := HBX
              clear HBX
              have HBX : Hid (RdT .i64 wE4 (.slice xw mw kw) bs.tail) := WW.out.next hbE
              clear WW
              have WW := HBX
              clear HBX
              have HBX : Hid (RdT .i64 wE4 (.slice xi mi ki) cs.tail) := WI.out.next hbE
              clear WI
              have WI := HBX
              clear HBX
              have HBX : Hid (RdT .u64 wE4 v35 ((less bs.tail cs.tail).map (ent (pos * 4294967296)))) := WT3.out.next hbE
              clear WT3
              have WT3 := HBX
              clear HBX
              have HBX : Hid (RdT .u64 wE4 v36 ((less cs.tail bs.tail).map (ent (pos * 4294967296)))) := WT4.out.next hbE
              clear WT4
              have WT4 := HBX
              clear HBX
              have HBX : Hid (RdT .u32 wE4 (.slice (some ⟨e5, 0, none⟩) 1 cap5) [pos]) := WT5.out.next hbE
              clear WT5
              have WT5 := HBX
              clear HBX
              have HBX : wE4.cell? ⟨b8, f8, none⟩ = some (.int .i64 tb) := (hbE.cell (p := ⟨b8, f8, none⟩) (World.block_lt_of_cell? _ _ hc8)).trans hc8
              clear hc8
              have hc8 := HBX
              clear HBX
              have HBX : wE4.cell? ⟨b9, f9, none⟩ = some (.int .i64 ta) := (hbE.cell (p := ⟨b9, f9, none⟩) (World.block_lt_of_cell? _ _ hc9)).trans hc9
              clear hc9
              have hc9 := HBX
              clear HBX
              clear hbE
              go_wp2_with fail
              have tE1 : L5 = L5 ++ [] := (List.append_nil _).symm
              have tE2 : (L5).length ≤ 4000000 := by rw [← N5.out]; omega
              have tE3 : RdS (fun _ => True) .u64 wE4 (.slice none 0 0) [] := rdt_nil _ _
              have tE := ext64 t5 s5 (.slice none 0 0) L5 L5 [] wE4 HB0.out.2.2.2.2.2.2.1 HB0.out.1.1.2.2.2.2.2.1 tE3 tE1 tE2
              clear tE1 tE2 tE3
              refine tE.mono ?_
              clear tE
              rintro e wE5 ⟨rfl, qE, hqE⟩
              have hbE : Below wE4.heap.size wE4 wE5 := by rw [hqE]; exact below_drewN (Below.refl _ _) _
              clear hqE
              have HBX : Hid (Bun wE5 s0 s1 s2 s3 s4 s5 s6 (.slice (some ⟨b8, f8, none⟩) n8 k8) (.slice (some ⟨b9, f9, none⟩) n9 k9) g0 g1 g2 g3 t4 t5 g6 L0 L1 L2 L3 L4 L5 L6 bs cs (L0 ++ pgone (pos * 4294967296) bs cs) (L1 ++ pgone (pos * 4294967296) cs bs) (L2 ++ (less bs.tail cs.tail).map (ent (pos * 4294967296))) (L3 ++ (less cs.tail bs.tail).map (ent (pos * 4294967296))) (L6 ++ if chg bs cs kept then [pos] else [])) := HB0.out.next hbE
              clear HB0
              have HB0 := HBX
              clear HBX
              have HBX : Hid (Below w.heap.size w wE5) := HBW.out.trans (hbE.mono HBW.out.size)
              clear HBW
              have HBW := HBX
              clear HBX
              have HBX : Hid (RdT .i64 wE5 (.slice xw mw kw) bs.tail) := WW.out.next hbE
              clear WW
              have WW := HBX
              clear HBX
              have HBX : Hid (RdT .i64 wE5 (.slice xi mi ki) cs.tail) := WI.out.next hbE
              clear WI
              have WI := HBX
              clear HBX
              have HBX : Hid (RdT .u64 wE5 v35 ((less bs.tail cs.tail).map (ent (pos * 4294967296)))) := WT3.out.next hbE
              clear WT3
              have WT3 := HBX
              clear HBX
              have HBX : Hid (RdT .u64 wE5 v36 ((less cs.tail bs.tail).map (ent (pos * 4294967296)))) := WT4.out.next hbE
              clear WT4
              have WT4 := HBX
              clear HBX
              have HBX : Hid (RdT .u32 wE5 (.slice (some ⟨e5, 0, none⟩) 1 cap5) [pos]) := WT5.out.next hbE
              clear WT5
              have WT5 := HBX
              clear HBX
              have HBX : wE5.cell? ⟨b8, f8, none⟩ = some (.int .i64 tb) := (hbE.cell (p := ⟨b8, f8, none⟩) (World.block_lt_of_cell? _ _ hc8)).trans hc8
              clear hc8
              have hc8 := HBX
              clear HBX
              have HBX : wE5.cell? ⟨b9, f9, none⟩ = some (.int .i64 ta) := (hbE.cell (p := ⟨b9, f9, none⟩) (World.block_lt_of_cell? _ _ hc9)).trans hc9
              clear hc9
              have hc9 := HBX
              clear HBX
              clear hbE
              go_wp2_with fail
              have tE1 : (L6 ++ if chg bs cs kept then [pos] else []) = L6 ++ [pos] := by rw [HCH.out]; rfl
              have tE2 : (L6 ++ if chg bs cs kept then [pos] else []).length ≤ 4000000 := by have h1 := chg_len (chg bs cs kept) pos; have h2 := N6.out; rw [List.length_append]; omega
              have tE3 : RdS (fun _ => True) .u32 wE5 (.slice (some ⟨e5, 0, none⟩) 1 cap5) [pos] := WT5.out
              have tE := ext32 g6 s6 (.slice (some ⟨e5, 0, none⟩) 1 cap5) (L6 ++ if chg bs cs kept then [pos] else []) L6 [pos] wE5 HB0.out.2.2.2.2.2.2.2 HB0.out.1.1.2.2.2.2.2.2 tE3 tE1 tE2
              clear tE1 tE2 tE3
              refine tE.mono ?_
              clear tE
              rintro e wZ ⟨rfl, qE, hqE⟩
              go_wp2
              go_ret
              exact ⟨rfl, below_drewN HBW.out _⟩
            case neg =>
              have hk1 : decide (0 ≤ kept) = false := by simpa using hn
              have HCH : Hid (chg bs cs kept = true) := by
                show _ = _
                unfold chg
                rw [HTB.out, HTA.out]
                exact decide_eq_true (by omega)
              go_wp2_with (at_builtin; refine wpList_append_mine (by rfl) _ _ _ (by rfl) Try.underlying42 Try.info43 (by decide) w4.heap.size _ (.slice none 0 0) [] none (by rfl) (by exact own_nil _ _ _ _) (by simp) (by decide) _ _ pos (by rfl) (by exact one_cell _ _ _) ?_; intro e5 cap5 w5 hown hgrow hrow hlt)
              have hb5 : Below w4.heap.size w4 w5 := by
                refine below_app ?_ hgrow (Nat.le_refl _) (fun g h => by cases h)
                exact grown_qa _ rfl rfl rfl rfl
              have WT5 : Hid (RdT .u32 w5 (.slice (some ⟨e5, 0, none⟩) 1 cap5) [pos]) := hown.rd_some.weaken (fun _ _ _ => trivial)
              clear hown hgrow hrow hlt
              have HBX : Hid (Bun w5 s0 s1 s2 s3 s4 s5 s6 (.slice (some ⟨b8, f8, none⟩) n8 k8) (.slice (some ⟨b9, f9, none⟩) n9 k9) g0 g1 g2 g3 t4 t5 g6 L0 L1 L2 L3 L4 L5 L6 bs cs (L0 ++ pgone (pos * 4294967296) bs cs) (L1 ++ pgone (pos * 4294967296) cs bs) (L2 ++ (less bs.tail cs.tail).map (ent (pos * 4294967296))) (L3 ++ (less cs.tail bs.tail).map (ent (pos * 4294967296))) (L6 ++ if chg bs cs kept then [pos] else [])) := HB0.out.next hb5
              clear HB0
              have HB0 := HBX
              clear HBX
              have HBX : Hid (Below w.heap.size w w5) := HBW.out.trans (hb5.mono HBW.out.size)
              clear HBW
              have HBW := HBX
              clear HBX
              have HBX : Hid (RdT .i64 w5 (.slice xw mw kw) bs.tail) := WW.out.next hb5
              clear WW
              have WW := HBX
              clear HBX
              have HBX : Hid (RdT .i64 w5 (.slice xi mi ki) cs.tail) := WI.out.next hb5
              clear WI
              have WI := HBX
              clear HBX
              have HBX : Hid (RdT .u64 w5 v35 ((less bs.tail cs.tail).map (ent (pos * 4294967296)))) := WT3.out.next hb5
              clear WT3
              have WT3 := HBX
              clear HBX
              have HBX : Hid (RdT .u64 w5 v36 ((less cs.tail bs.tail).map (ent (pos * 4294967296)))) := WT4.out.next hb5
              clear WT4
              have WT4 := HBX
              clear HBX
              have HBX : w5.cell? ⟨b8, f8, none⟩ = some (.int .i64 tb) := (hb5.cell (p := ⟨b8, f8, none⟩) (World.block_lt_of_cell? _ _ hc8)).trans hc8
              clear hc8
              have hc8 := HBX
              clear HBX
              have HBX : w5.cell? ⟨b9, f9, none⟩ = some (.int .i64 ta) := (hb5.cell (p := ⟨b9, f9, none⟩) (World.block_lt_of_cell? _ _ hc9)).trans hc9
              clear hc9
              have hc9 := HBX
              clear HBX
              clear hb5
              skip
              have tE1 : (L0 ++ pgone (pos * 4294967296) bs cs) = L0 ++ [] := by rw [PG1.out]
              have tE2 : ((L0 ++ pgone (pos * 4294967296) bs cs)).length ≤ 4000000 := by have h1 := pgone_len (pos * 4294967296) bs cs; have h2 := N0.out; rw [List.length_append]; omega
              have tE3 : RdS (fun _ => True) .u64 w5 (.slice none 0 0) [] := rdt_nil _ _
              have tE := ext64 g0 s0 (.slice none 0 0) (L0 ++ pgone (pos * 4294967296) bs cs) L0 [] w5 HB0.out.2.1 HB0.out.1.1.1 tE3 tE1 tE2
              clear tE1 tE2 tE3
              refine tE.mono ?_
              clear tE
              rintro e wE0 ⟨rfl, qE, hqE⟩
              have hbE : Below w5.heap.size w5 wE0 := by rw [hqE]; exact below_drewN (Below.refl _ _) _
              clear hqE
              have HBX : Hid (Bun wE0 s0 s1 s2 s3 s4 s5 s6 (.slice (some ⟨b8, f8, none⟩) n8 k8) (.slice (some ⟨b9, f9, none⟩) n9 k9) g0 g1 g2 g3 t4 t5 g6 L0 L1 L2 L3 L4 L5 L6 bs cs (L0 ++ pgone (pos * 4294967296) bs cs) (L1 ++ pgone (pos * 4294967296) cs bs) (L2 ++ (less bs.tail cs.tail).map (ent (pos * 4294967296))) (L3 ++ (less cs.tail bs.tail).map (ent (pos * 4294967296))) (L6 ++ if chg bs cs kept then [pos] else [])) := HB0.out.next hbE
              clear HB0
              have HB0 := HBX
              clear HBX
              have HBX : Hid (Below w.heap.size w wE0) := HBW.out.trans (hbE.mono HBW.out.size)
              clear HBW
              have HBW := HBX
              clear HBX
              have HBX : Hid (RdT .i64 wE0 (.slice xw mw kw) bs.tail) := WW.out.next hbE
              clear WW
              have WW := HBX
              clear HBX
              have HBX : Hid (RdT .i64 wE0 (.slice xi mi ki) cs.tail) := WI.out.next hbE
              clear WI
              have WI := HBX
              clear HBX
              have HBX : Hid (RdT .u64 wE0 v35 ((less bs.tail cs.tail).map (ent (pos * 4294967296)))) := WT3.out.next hbE
              clear WT3
              have WT3 := HBX
              clear HBX
              have HBX : Hid (RdT .u64 wE0 v36 ((less cs.tail bs.tail).map (ent (pos * 4294967296)))) := WT4.out.next hbE
              clear WT4
              have WT4 := HBX
              clear HBX
              have HBX : Hid (RdT .u32 wE0 (.slice (some ⟨e5, 0, none⟩) 1 cap5) [pos]) := WT5.out.next hbE
              clear WT5
              have WT5 := HBX
              clear HBX
              have HBX : wE0.cell? ⟨b8, f8, none⟩ = some (.int .i64 tb) := (hbE.cell (p := ⟨b8, f8, none⟩) (World.block_lt_of_cell? _ _ hc8)).trans hc8
              clear hc8
              have hc8 := HBX
              clear HBX
              have HBX : wE0.cell? ⟨b9, f9, none⟩ = some (.int .i64 ta) := (hbE.cell (p := ⟨b9, f9, none⟩) (World.block_lt_of_cell? _ _ hc9)).trans hc9
              clear hc9
              have hc9 := HBX
              clear HBX
              clear hbE
              go_wp2_with fail
              have tE1 : (L1 ++ pgone (pos * 4294967296) cs bs) = L1 ++ [] := by rw [PG2.out]
              have tE2 : ((L1 ++ pgone (pos * 4294967296) cs bs)).length ≤ 4000000 := by have h1 := pgone_len (pos * 4294967296) cs bs; have h2 := N1.out; rw [List.length_append]; omega
              have tE3 : RdS (fun _ => True) .u64 wE0 (.slice none 0 0) [] := rdt_nil _ _
              have tE := ext64 g1 s1 (.slice none 0 0) (L1 ++ pgone (pos * 4294967296) cs bs) L1 [] wE0 HB0.out.2.2.1 HB0.out.1.1.2.1 tE3 tE1 tE2
              clear tE1 tE2 tE3
              refine tE.mono ?_
              clear tE
              rintro e wE1 ⟨rfl, qE, hqE⟩
              have hbE : Below wE0.heap.size wE0 wE1 := by rw [hqE]; exact below_drewN (Below.refl _ _) _
              clear hqE
              have HBX : Hid (Bun wE1 s0 s1 s2 s3 s4 s5 s6 (.slice (some ⟨b8, f8, none⟩) n8 k8) (.slice (some ⟨b9, f9, none⟩) n9 k9) g0 g1 g2 g3 t4 t5 g6 L0 L1 L2 L3 L4 L5 L6 bs cs (L0 ++ pgone (pos * 4294967296) bs cs) (L1 ++ pgone (pos * 4294967296) cs bs) (L2 ++ (less bs.tail cs.tail).map (ent (pos * 4294967296))) (L3 ++ (less cs.tail bs.tail).map (ent (pos * 4294967296))) (L6 ++ if chg bs cs kept then [pos] else [])) := HB0.out.next hbE
              clear HB0
              have HB0 := HBX
              clear HBX
              have HBX : Hid (Below w.heap.size w wE1) := HBW.out.trans (hbE.mono HBW.out.size)
              clear HBW
              have HBW := HBX
              clear HBX
              have HBX : Hid (RdT .i64 wE1 (.slice xw mw kw) bs.tail) := WW.out.next hbE
              clear WW
              have WW := HBX
              clear HBX
              have HBX : Hid (RdT .i64 wE1 (.slice xi mi ki) cs.tail) := WI.out.next hbE
              clear WI
              have WI := HBX
              clear HBX
              have HBX : Hid (RdT .u64 wE1 v35 ((less bs.tail cs.tail).map (ent (pos * 4294967296)))) := WT3.out.next hbE
              clear WT3
              have WT3 := HBX
              clear HBX
              have HBX : Hid (RdT .u64 wE1 v36 ((less cs.tail bs.tail).map (ent (pos * 4294967296)))) := WT4.out.next hbE
              clear WT4
              have WT4 := HBX
              clear HBX
              have HBX : Hid (RdT .u32 wE1 (.slice (some ⟨e5, 0, none⟩) 1 cap5) [pos]) := WT5.out.next hbE
              clear WT5
              have WT5 := HBX
              clear HBX
              have HBX : wE1.cell? ⟨b8, f8, none⟩ = some (.int .i64 tb) := (hbE.cell (p := ⟨b8, f8, none⟩) (World.block_lt_of_cell? _ _ hc8)).trans hc8
              clear hc8
              have hc8 := HBX
              clear HBX
              have HBX : wE1.cell? ⟨b9, f9, none⟩ = some (.int .i64 ta) := (hbE.cell (p := ⟨b9, f9, none⟩) (World.block_lt_of_cell? _ _ hc9)).trans hc9
              clear hc9
              have hc9 := HBX
              clear HBX
              clear hbE
              go_wp2_with fail
              have tE1 : (L2 ++ (less bs.tail cs.tail).map (ent (pos * 4294967296))) = L2 ++ ((less bs.tail cs.tail).map (ent (pos * 4294967296))) := rfl
              have tE2 : ((L2 ++ (less bs.tail cs.tail).map (ent (pos * 4294967296)))).length ≤ 4000000 := by have h1 := less_len bs.tail cs.tail; have h2 := N2.out; have h3 := HMW.out; rw [List.length_append, List.length_map]; omega
              have tE3 : RdS (fun _ => True) .u64 wE1 v35 ((less bs.tail cs.tail).map (ent (pos * 4294967296))) := WT3.out
              have tE := ext64 g2 s2 v35 (L2 ++ (less bs.tail cs.tail).map (ent (pos * 4294967296))) L2 ((less bs.tail cs.tail).map (ent (pos * 4294967296))) wE1 HB0.out.2.2.2.1 HB0.out.1.1.2.2.1 tE3 tE1 tE2
              clear tE1 tE2 tE3
              refine tE.mono ?_
              clear tE
              rintro e wE2 ⟨rfl, qE, hqE⟩
              have hbE : Below wE1.heap.size wE1 wE2 := by rw [hqE]; exact below_drewN (Below.refl _ _) _
              clear hqE
              have HBX : Hid (Bun wE2 s0 s1 s2 s3 s4 s5 s6 (.slice (some ⟨b8, f8, none⟩) n8 k8) (.slice (some ⟨b9, f9, none⟩) n9 k9) g0 g1 g2 g3 t4 t5 g6 L0 L1 L2 L3 L4 L5 L6 bs cs (L0 ++ pgone (pos * 4294967296) bs cs) (L1 ++ pgone (pos * 4294967296) cs bs) (L2 ++ (less bs.tail cs.tail).map (ent (pos * 4294967296))) (L3 ++ (less cs.tail bs.tail).map (ent (pos * 4294967296))) (L6 ++ if chg bs cs kept then [pos] else [])) := HB0.out.next hbE
              clear HB0
              have HB0 := HBX
              clear HBX
              have HBX : Hid (Below w.heap.size w wE2) := HBW.out.trans (hbE.mono HBW.out.size)
              clear HBW
              have HBW := HBX
              clear HBX
              have HBX : Hid (RdT .i64 wE2 (.slice xw mw kw) bs.tail) := WW.out.next hbE
              clear WW
              have WW := HBX
              clear HBX
              have HBX : Hid (RdT .i64 wE2 (.slice xi mi ki) cs.tail) := WI.out.next hbE
              clear WI
              have WI := HBX
              clear HBX
              have HBX : Hid (RdT .u64 wE2 v35 ((less bs.tail cs.tail).map (ent (pos * 4294967296)))) := WT3.out.next hbE
              clear WT3
              have WT3 := HBX
              clear HBX
              have HBX : Hid (RdT .u64 wE2 v36 ((less cs.tail bs.tail).map (ent (pos * 4294967296)))) := WT4.out.next hbE
              clear WT4
              have WT4 := HBX
              clear HBX
              have HBX : Hid (RdT .u32 wE2 (.slice (some ⟨e5, 0, none⟩) 1 cap5) [pos]) := WT5.out.next hbE
              clear WT5
              have WT5 := HBX
              clear HBX
              have HBX : wE2.cell? ⟨b8, f8, none⟩ = some (.int .i64 tb) := (hbE.cell (p := ⟨b8, f8, none⟩) (World.block_lt_of_cell? _ _ hc8)).trans hc8
              clear hc8
              have hc8 := HBX
              clear HBX
              have HBX : wE2.cell? ⟨b9, f9, none⟩ = some (.int .i64 ta) := (hbE.cell (p := ⟨b9, f9, none⟩) (World.block_lt_of_cell? _ _ hc9)).trans hc9
              clear hc9
              have hc9 := HBX
              clear HBX
              clear hbE
              go_wp2_with fail
              have tE1 : (L3 ++ (less cs.tail bs.tail).map (ent (pos * 4294967296))) = L3 ++ ((less cs.tail bs.tail).map (ent (pos * 4294967296))) := rfl
              have tE2 : ((L3 ++ (less cs.tail bs.tail).map (ent (pos * 4294967296)))).length ≤ 4000000 := by have h1 := less_len cs.tail bs.tail; have h2 := N3.out; have h3 := HMI.out; rw [List.length_append, List.length_map]; omega
              have tE3 : RdS (fun _ => True) .u64 wE2 v36 ((less cs.tail bs.tail).map (ent (pos * 4294967296))) := WT4.out
              have tE := ext64 g3 s3 v36 (L3 ++ (less cs.tail bs.tail).map (ent (pos * 4294967296))) L3 ((less cs.tail bs.tail).map (ent (pos * 4294967296))) wE2 HB0.out.2.2.2.2.1 HB0.out.1.1.2.2.2.1 tE3 tE1 tE2
              clear tE1 tE2 tE3
              refine tE.mono ?_
              clear tE
              rintro e wE3 ⟨rfl, qE, hqE⟩
              have hbE : Below wE2.heap.size wE2 wE3 := by rw [hqE]; exact below_drewN (Below.refl _ _) _
              clear hqE
              have HBX : Hid (Bun wE3 s0 s1 s2 s3 s4 s5 s6 (.slice (some ⟨b8, f8, none⟩) n8 k8) (.slice (some ⟨b9, f9, none⟩) n9 k9) g0 g1 g2 g3 t4 t5 g6 L0 L1 L2 L3 L4 L5 L6 bs cs (L0 ++ pgone (pos * 4294967296) bs cs) (L1 ++ pgone (pos * 4294967296) cs bs) (L2 ++ (less bs.tail cs.tail).map (ent (pos * 4294967296))) (L3 ++ (less cs.tail bs.tail).map (ent (pos * 4294967296))) (L6 ++ if chg bs cs kept then [pos] else [])) := HB0.out.next hbE
              clear HB0
              have HB0 := HBX
              clear HBX
              have HBX : Hid (Below w.heap.size w wE3) := HBW.out.trans (hbE.mono HBW.out.size)
              clear HBW
              have HBW := HBX
              clear HBX
              have HBX : Hid (RdT .i64 wE3 (.slice xw mw kw) bs.tail) := WW.out.next hbE
              clear WW
              have WW := HBX
              clear HBX
              have HBX : Hid (RdT .i64 wE3 (.slice xi mi ki) cs.tail) := WI.out.next hbE
              clear WI
              have WI := HBX
              clear HBX
              have HBX : Hid (RdT .u64 wE3 v35 ((less bs.tail cs.tail).map (ent (pos * 4294967296)))) := WT3.out.next hbE
              clear WT3
              have WT3 := HBX
              clear HBX
              have HBX : Hid (RdT .u64 wE3 v36 ((less cs.tail bs.tail).map (ent (pos * 4294967296)))) := WT4.out.next hbE
              clear WT4
              have WT4 := HBX
              clear HBX
              have HBX : Hid (RdT .u32 wE3 (.slice (some ⟨e5, 0, none⟩) 1 cap5) [pos]) := WT5.out.next hbE
              clear WT5
              have WT5 := HBX
              clear HBX
              have HBX : wE3.cell? ⟨b8, f8, none⟩ = some (.int .i64 tb) := (hbE.cell (p := ⟨b8, f8, none⟩) (World.block_lt_of_cell? _ _ hc8)).trans hc8
              clear hc8
              have hc8 := HBX
              clear HBX
              have HBX : wE3.cell? ⟨b9, f9, none⟩ = some (.int .i64 ta) := (hbE.cell (p := ⟨b9, f9, none⟩) (World.block_lt_of_cell? _ _ hc9)).trans hc9
              clear hc9
              have hc9 := HBX
              clear HBX
              clear hbE
              go_wp2_with fail
              have tE1 : L4 = L4 ++ [] := (List.append_nil _).symm
              have tE2 : (L4).length ≤ 4000000 := by rw [← N4.out]; omega
              have tE3 : RdS (fun _ => True) .u64 wE3 (.slice none 0 0) [] := rdt_nil _ _
              have tE := ext64 t4 s4 (.slice none 0 0) L4 L4 [] wE3 HB0.out.2.2.2.2.2.1 HB0.out.1.1.2.2.2.2.1 tE3 tE1 tE2
              clear tE1 tE2 tE3
              refine tE.mono ?_
              clear tE
              rintro e wE4 ⟨rfl, qE, hqE⟩
              have hbE : Below wE3.heap.size wE3 wE4 := by rw [hqE]; exact below_drewN (Below.refl _ _) _
              clear hqE
              have HBX : Hid (Bun wE4 s0 s1 s2 s3 s4 s5 s6 (.slice (some ⟨b8, f8, none⟩) n8 k8) (.slice (some ⟨b9, f9, none⟩) n9 k9) g0 g1 g2 g3 t4 t5 g6 L0 L1 L2 L3 L4 L5 L6 bs cs (L0 ++ pgone (pos * 4294967296) bs cs) (L1 ++ pgone (pos * 4294967296) cs bs) (L2 ++ (less bs.tail cs.tail).map (ent (pos * 4294967296))) (L3 ++ (less cs.tail bs.tail).map (ent (pos * 4294967296))) (L6 ++ if chg bs cs kept then [pos] else [])) := HB0.out.next hbE
              clear HB0
              have HB0 := HBX
              clear HBX
              have HBX : Hid (Below w.heap.size w wE4) := HBW.out.trans (hbE.mono HBW.out.size)
              clear HBW
              have HBW := HBX
              clear HBX
              have HBX : Hid (RdT .i64 wE4 (.slice xw mw kw) bs.tail) := WW.out.next hbE
              clear WW
              have WW := HBX
              clear HBX
              have HBX : Hid (RdT .i64 wE4 (.slice xi mi ki) cs.tail) := WI.out.next hbE
              clear WI
              have WI := HBX
              clear HBX
              have HBX : Hid (RdT .u64 wE4 v35 ((less bs.tail cs.tail).map (ent (pos * 4294967296)))) := WT3.out.next hbE
              clear WT3
              have WT3 := HBX
              clear HBX
              have HBX : Hid (RdT .u64 wE4 v36 ((less cs.tail bs.tail).map (ent (pos * 4294967296)))) := WT4.out.next hbE
              clear WT4
              have WT4 := HBX
              clear HBX
              have HBX : Hid (RdT .u32 wE4 (.slice (some ⟨e5, 0, none⟩) 1 cap5) [pos]) := WT5.out.next hbE
              clear WT5
              have WT5 := HBX
              clear HBX
              have HBX : wE4.cell? ⟨b8, f8, none⟩ = some (.int .i64 tb) := (hbE.cell (p := ⟨b8, f8, none⟩) (World.block_lt_of_cell? _ _ hc8)).trans hc8
              clear hc8
              have hc8 := HBX
              clear HBX
              have HBX : wE4.cell? ⟨b9, f9, none⟩ = some (.int .i64 ta) := (hbE.cell (p := ⟨b9, f9, none⟩) (World.block_lt_of_cell? _ _ hc9)).trans hc9
              clear hc9
              have hc9 := HBX
              clear HBX
              clear hbE
              go_wp2_with fail
              have tE1 : L5 = L5 ++ [] := (List.append_nil _).symm
              have tE2 : (L5).length ≤ 4000000 := by rw [← N5.out]; omega
              have tE3 : RdS (fun _ => True) .u64 wE4 (.slice none 0 0) [] := rdt_nil _ _
              have tE := ext64 t5 s5 (.slice none 0 0) L5 L5 [] wE4 HB0.out.2.2.2.2.2.2.1 HB0.out.1.1.2.2.2.2.2.1 tE3 tE1 tE2
              clear tE1 tE2 tE3
              refine tE.mono ?_
              clear tE
              rintro e wE5 ⟨rfl, qE, hqE⟩
              have hbE : Below wE4.heap.size wE4 wE5 := by rw [hqE]; exact below_drewN (Below.refl _ _) _
              clear hqE
              have HBX : Hid (Bun wE5 s0 s1 s2 s3 s4 s5 s6 (.slice (some ⟨b8, f8, none⟩) n8 k8) (.slice (some ⟨b9, f9, none⟩) n9 k9) g0 g1 g2 g3 t4 t5 g6 L0 L1 L2 L3 L4 L5 L6 bs cs (L0 ++ pgone (pos * 4294967296) bs cs) (L1 ++ pgone (pos * 4294967296) cs bs) (L2 ++ (less bs.tail cs.tail).map (ent (pos * 4294967296))) (L3 ++ (less cs.tail bs.tail).map (ent (pos * 4294967296))) (L6 ++ if chg bs cs kept then [pos] else [])) := HB0.out.next hbE
              clear HB0
              have HB0 := HBX
              clear HBX
              have HBX : Hid (Below w.heap.size w wE5) := HBW.out.trans (hbE.mono HBW.out.size)
              clear HBW
              have HBW := HBX
              clear HBX
              have HBX : Hid (RdT .i64 wE5 (.slice xw mw kw) bs.tail) := WW.out.next hbE
              clear WW
              have WW := HBX
              clear HBX
              have HBX : Hid (RdT .i64 wE5 (.slice xi mi ki) cs.tail) := WI.out.next hbE
              clear WI
              have WI := HBX
              clear HBX
              have HBX : Hid (RdT .u64 wE5 v35 ((less bs.tail cs.tail).map (ent (pos * 4294967296)))) := WT3.out.next hbE
              clear WT3
              have WT3 := HBX
              clear HBX
              have HBX : Hid (RdT .u64 wE5 v36 ((less cs.tail bs.tail).map (ent (pos * 4294967296)))) := WT4.out.next hbE
              clear WT4
              have WT4 := HBX
              clear HBX
              have HBX : Hid (RdT .u32 wE5 (.slice (some ⟨e5, 0, none⟩) 1 cap5) [pos]) := WT5.out.next hbE
              clear WT5
              have WT5 := HBX
              clear HBX
              have HBX : wE5.cell? ⟨b8, f8, none⟩ = some (.int .i64 tb) := (hbE.cell (p := ⟨b8, f8, none⟩) (World.block_lt_of_cell? _ _ hc8)).trans hc8
              clear hc8
              have hc8 := HBX
              clear HBX
              have HBX : wE5.cell? ⟨b9, f9, none⟩ = some (.int .i64 ta) := (hbE.cell (p := ⟨b9, f9, none⟩) (World.block_lt_of_cell? _ _ hc9)).trans hc9
              clear hc9
              have hc9 := HBX
              clear HBX
              clear hbE
              go_wp2_with fail
              have tE1 : (L6 ++ if chg bs cs kept then [pos] else []) = L6 ++ [pos] := by rw [HCH.out]; rfl
              have tE2 : (L6 ++ if chg bs cs kept then [pos] else []).length ≤ 4000000 := by have h1 := chg_len (chg bs cs kept) pos; have h2 := N6.out; rw [List.length_append]; omega
              have tE3 : RdS (fun _ => True) .u32 wE5 (.slice (some ⟨e5, 0, none⟩) 1 cap5) [pos] := WT5.out
              have tE := ext32 g6 s6 (.slice (some ⟨e5, 0, none⟩) 1 cap5) (L6 ++ if chg bs cs kept then [pos] else []) L6 [pos] wE5 HB0.out.2.2.2.2.2.2.2 HB0.out.1.1.2.2.2.2.2.2 tE3 tE1 tE2
              clear tE1 tE2 tE3
              refine tE.mono ?_
              clear tE
              rintro e wZ ⟨rfl, qE, hqE⟩
              go_wp2
              go_ret
              exact ⟨rfl, below_drewN HBW.out _⟩

end Go.Proofs.Qxb6604322a.Ring
