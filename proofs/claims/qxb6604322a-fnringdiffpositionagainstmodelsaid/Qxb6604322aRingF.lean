/-
  The law over position (7): the ways that return at once.
-/
import Derived.Test.Qxb6604322aRingE
namespace Go.Proofs.Qxb6604322a.Ring
open Go.ChangeShapes Go.WideShapes Go.ChangeAt Go.RowKit Mem
set_option linter.unusedVariables false
set_option linter.unusedSimpArgs false

set_option maxRecDepth 100000 in
set_option maxHeartbeats 4000000 in
theorem law7_0 (a0 a1 a2 a3 a4 a5 a6 a8 a9 : Option Addr) (n0 n1 n2 n3 n4 n5 n6 n8 n9 c0 c1 c2 c3 c4 c5 c6 c8 c9 : Nat) (pos kept : Int) (w : World) (m0 : n0 ≤ 9223372036854775807) (m1 : n1 ≤ 9223372036854775807) (m2 : n2 ≤ 9223372036854775807) (m3 : n3 ≤ 9223372036854775807) (m4 : n4 ≤ 9223372036854775807) (m5 : n5 ≤ 9223372036854775807) (m6 : n6 ≤ 9223372036854775807) (m8 : n8 ≤ 9223372036854775807) (m9 : n9 ≤ 9223372036854775807)  (q0 : ¬ n0 ≤ 131072) :
    Calls Try.prog 7 #[.slice a0 n0 c0, .slice a1 n1 c1, .slice a2 n2 c2, .slice a3 n3 c3, .slice a4 n4 c4, .slice a5 n5 c5, .slice a6 n6 c6, .int .u32 pos, .slice a8 n8 c8, .slice a9 n9 c9, .int .i64 kept] w fun e w' => e = .returned (.bool true) ∧ Below w.heap.size w w' := by
  have p0 : decide ((131072 : Int) < (n0 : Int)) = true := by simp; omega
  go_enter Try.func7, Try.ntmps7
  go_upto_if 54 with (go_at_call 22; refine (bytes22 _ _ _ _ _ _ _ _ _ _ _ _ _ _ _ _ _ _ _ _ _ _ _ _ _ _ _ _ _ _ m0 m1 m2 m3 m4 m5 m6 m8 m9).mono ?_; rintro e w1 ⟨⟨bb, rfl⟩, hw1⟩; have hw2 := hw1.symm; subst hw2; clear hw1)
  cases bb
  · go_wp2
    go_ret
    exact ⟨rfl, Below.refl _ _⟩
  · go_wp2
    go_ret
    exact ⟨rfl, Below.refl _ _⟩

set_option maxRecDepth 100000 in
set_option maxHeartbeats 4000000 in
theorem law7_1 (a0 a1 a2 a3 a4 a5 a6 a8 a9 : Option Addr) (n0 n1 n2 n3 n4 n5 n6 n8 n9 c0 c1 c2 c3 c4 c5 c6 c8 c9 : Nat) (pos kept : Int) (w : World) (m0 : n0 ≤ 9223372036854775807) (m1 : n1 ≤ 9223372036854775807) (m2 : n2 ≤ 9223372036854775807) (m3 : n3 ≤ 9223372036854775807) (m4 : n4 ≤ 9223372036854775807) (m5 : n5 ≤ 9223372036854775807) (m6 : n6 ≤ 9223372036854775807) (m8 : n8 ≤ 9223372036854775807) (m9 : n9 ≤ 9223372036854775807) (q0 : n0 ≤ 131072) (q1 : ¬ n1 ≤ 131072) :
    Calls Try.prog 7 #[.slice a0 n0 c0, .slice a1 n1 c1, .slice a2 n2 c2, .slice a3 n3 c3, .slice a4 n4 c4, .slice a5 n5 c5, .slice a6 n6 c6, .int .u32 pos, .slice a8 n8 c8, .slice a9 n9 c9, .int .i64 kept] w fun e w' => e = .returned (.bool true) ∧ Below w.heap.size w w' := by
  have p0 : decide ((131072 : Int) < (n0 : Int)) = false := by simp; omega
  have p1 : decide ((131072 : Int) < (n1 : Int)) = true := by simp; omega
  go_enter Try.func7, Try.ntmps7
  go_upto_if 54 with (go_at_call 22; refine (bytes22 _ _ _ _ _ _ _ _ _ _ _ _ _ _ _ _ _ _ _ _ _ _ _ _ _ _ _ _ _ _ m0 m1 m2 m3 m4 m5 m6 m8 m9).mono ?_; rintro e w1 ⟨⟨bb, rfl⟩, hw1⟩; have hw2 := hw1.symm; subst hw2; clear hw1)
  cases bb
  · go_wp2
    go_ret
    exact ⟨rfl, Below.refl _ _⟩
  · go_wp2
    go_ret
    exact ⟨rfl, Below.refl _ _⟩

set_option maxRecDepth 100000 in
set_option maxHeartbeats 4000000 in
theorem law7_2 (a0 a1 a2 a3 a4 a5 a6 a8 a9 : Option Addr) (n0 n1 n2 n3 n4 n5 n6 n8 n9 c0 c1 c2 c3 c4 c5 c6 c8 c9 : Nat) (pos kept : Int) (w : World) (m0 : n0 ≤ 9223372036854775807) (m1 : n1 ≤ 9223372036854775807) (m2 : n2 ≤ 9223372036854775807) (m3 : n3 ≤ 9223372036854775807) (m4 : n4 ≤ 9223372036854775807) (m5 : n5 ≤ 9223372036854775807) (m6 : n6 ≤ 9223372036854775807) (m8 : n8 ≤ 9223372036854775807) (m9 : n9 ≤ 9223372036854775807) (q0 : n0 ≤ 131072) (q1 : n1 ≤ 131072) (q2 : ¬ n2 ≤ 131072) :
    Calls Try.prog 7 #[.slice a0 n0 c0, .slice a1 n1 c1, .slice a2 n2 c2, .slice a3 n3 c3, .slice a4 n4 c4, .slice a5 n5 c5, .slice a6 n6 c6, .int .u32 pos, .slice a8 n8 c8, .slice a9 n9 c9, .int .i64 kept] w fun e w' => e = .returned (.bool true) ∧ Below w.heap.size w w' := by
  have p0 : decide ((131072 : Int) < (n0 : Int)) = false := by simp; omega
  have p1 : decide ((131072 : Int) < (n1 : Int)) = false := by simp; omega
  have p2 : decide ((131072 : Int) < (n2 : Int)) = true := by simp; omega
  go_enter Try.func7, Try.ntmps7
  go_upto_if 54 with (go_at_call 22; refine (bytes22 _ _ _ _ _ _ _ _ _ _ _ _ _ _ _ _ _ _ _ _ _ _ _ _ _ _ _ _ _ _ m0 m1 m2 m3 m4 m5 m6 m8 m9).mono ?_; rintro e w1 ⟨⟨bb, rfl⟩, hw1⟩; have hw2 := hw1.symm; subst hw2; clear hw1)
  cases bb
  · go_wp2
    go_ret
    exact ⟨rfl, Below.refl _ _⟩
  · go_wp2
    go_ret
    exact ⟨rfl, Below.refl _ _⟩

set_option maxRecDepth 100000 in
set_option maxHeartbeats 4000000 in
theorem law7_3 (a0 a1 a2 a3 a4 a5 a6 a8 a9 : Option Addr) (n0 n1 n2 n3 n4 n5 n6 n8 n9 c0 c1 c2 c3 c4 c5 c6 c8 c9 : Nat) (pos kept : Int) (w : World) (m0 : n0 ≤ 9223372036854775807) (m1 : n1 ≤ 9223372036854775807) (m2 : n2 ≤ 9223372036854775807) (m3 : n3 ≤ 9223372036854775807) (m4 : n4 ≤ 9223372036854775807) (m5 : n5 ≤ 9223372036854775807) (m6 : n6 ≤ 9223372036854775807) (m8 : n8 ≤ 9223372036854775807) (m9 : n9 ≤ 9223372036854775807) (q0 : n0 ≤ 131072) (q1 : n1 ≤ 131072) (q2 : n2 ≤ 131072) (q3 : ¬ n3 ≤ 131072) :
    Calls Try.prog 7 #[.slice a0 n0 c0, .slice a1 n1 c1, .slice a2 n2 c2, .slice a3 n3 c3, .slice a4 n4 c4, .slice a5 n5 c5, .slice a6 n6 c6, .int .u32 pos, .slice a8 n8 c8, .slice a9 n9 c9, .int .i64 kept] w fun e w' => e = .returned (.bool true) ∧ Below w.heap.size w w' := by
  have p0 : decide ((131072 : Int) < (n0 : Int)) = false := by simp; omega
  have p1 : decide ((131072 : Int) < (n1 : Int)) = false := by simp; omega
  have p2 : decide ((131072 : Int) < (n2 : Int)) = false := by simp; omega
  have p3 : decide ((131072 : Int) < (n3 : Int)) = true := by simp; omega
  go_enter Try.func7, Try.ntmps7
  go_upto_if 54 with (go_at_call 22; refine (bytes22 _ _ _ _ _ _ _ _ _ _ _ _ _ _ _ _ _ _ _ _ _ _ _ _ _ _ _ _ _ _ m0 m1 m2 m3 m4 m5 m6 m8 m9).mono ?_; rintro e w1 ⟨⟨bb, rfl⟩, hw1⟩; have hw2 := hw1.symm; subst hw2; clear hw1)
  cases bb
  · go_wp2
    go_ret
    exact ⟨rfl, Below.refl _ _⟩
  · go_wp2
    go_ret
    exact ⟨rfl, Below.refl _ _⟩

set_option maxRecDepth 100000 in
set_option maxHeartbeats 4000000 in
theorem law7_4 (a0 a1 a2 a3 a4 a5 a6 a8 a9 : Option Addr) (n0 n1 n2 n3 n4 n5 n6 n8 n9 c0 c1 c2 c3 c4 c5 c6 c8 c9 : Nat) (pos kept : Int) (w : World) (m0 : n0 ≤ 9223372036854775807) (m1 : n1 ≤ 9223372036854775807) (m2 : n2 ≤ 9223372036854775807) (m3 : n3 ≤ 9223372036854775807) (m4 : n4 ≤ 9223372036854775807) (m5 : n5 ≤ 9223372036854775807) (m6 : n6 ≤ 9223372036854775807) (m8 : n8 ≤ 9223372036854775807) (m9 : n9 ≤ 9223372036854775807) (q0 : n0 ≤ 131072) (q1 : n1 ≤ 131072) (q2 : n2 ≤ 131072) (q3 : n3 ≤ 131072) (q4 : ¬ n4 ≤ 131072) :
    Calls Try.prog 7 #[.slice a0 n0 c0, .slice a1 n1 c1, .slice a2 n2 c2, .slice a3 n3 c3, .slice a4 n4 c4, .slice a5 n5 c5, .slice a6 n6 c6, .int .u32 pos, .slice a8 n8 c8, .slice a9 n9 c9, .int .i64 kept] w fun e w' => e = .returned (.bool true) ∧ Below w.heap.size w w' := by
  have p0 : decide ((131072 : Int) < (n0 : Int)) = false := by simp; omega
  have p1 : decide ((131072 : Int) < (n1 : Int)) = false := by simp; omega
  have p2 : decide ((131072 : Int) < (n2 : Int)) = false := by simp; omega
  have p3 : decide ((131072 : Int) < (n3 : Int)) = false := by simp; omega
  have p4 : decide ((131072 : Int) < (n4 : Int)) = true := by simp; omega
  go_enter Try.func7, Try.ntmps7
  go_upto_if 54 with (go_at_call 22; refine (bytes22 _ _ _ _ _ _ _ _ _ _ _ _ _ _ _ _ _ _ _ _ _ _ _ _ _ _ _ _ _ _ m0 m1 m2 m3 m4 m5 m6 m8 m9).mono ?_; rintro e w1 ⟨⟨bb, rfl⟩, hw1⟩; have hw2 := hw1.symm; subst hw2; clear hw1)
  cases bb
  · go_wp2
    go_ret
    exact ⟨rfl, Below.refl _ _⟩
  · go_wp2
    go_ret
    exact ⟨rfl, Below.refl _ _⟩

set_option maxRecDepth 100000 in
set_option maxHeartbeats 4000000 in
theorem law7_5 (a0 a1 a2 a3 a4 a5 a6 a8 a9 : Option Addr) (n0 n1 n2 n3 n4 n5 n6 n8 n9 c0 c1 c2 c3 c4 c5 c6 c8 c9 : Nat) (pos kept : Int) (w : World) (m0 : n0 ≤ 9223372036854775807) (m1 : n1 ≤ 9223372036854775807) (m2 : n2 ≤ 9223372036854775807) (m3 : n3 ≤ 9223372036854775807) (m4 : n4 ≤ 9223372036854775807) (m5 : n5 ≤ 9223372036854775807) (m6 : n6 ≤ 9223372036854775807) (m8 : n8 ≤ 9223372036854775807) (m9 : n9 ≤ 9223372036854775807) (q0 : n0 ≤ 131072) (q1 : n1 ≤ 131072) (q2 : n2 ≤ 131072) (q3 : n3 ≤ 131072) (q4 : n4 ≤ 131072) (q5 : ¬ n5 ≤ 131072) :
    Calls Try.prog 7 #[.slice a0 n0 c0, .slice a1 n1 c1, .slice a2 n2 c2, .slice a3 n3 c3, .slice a4 n4 c4, .slice a5 n5 c5, .slice a6 n6 c6, .int .u32 pos, .slice a8 n8 c8, .slice a9 n9 c9, .int .i64 kept] w fun e w' => e = .returned (.bool true) ∧ Below w.heap.size w w' := by
  have p0 : decide ((131072 : Int) < (n0 : Int)) = false := by simp; omega
  have p1 : decide ((131072 : Int) < (n1 : Int)) = false := by simp; omega
  have p2 : decide ((131072 : Int) < (n2 : Int)) = false := by simp; omega
  have p3 : decide ((131072 : Int) < (n3 : Int)) = false := by simp; omega
  have p4 : decide ((131072 : Int) < (n4 : Int)) = false := by simp; omega
  have p5 : decide ((131072 : Int) < (n5 : Int)) = true := by simp; omega
  go_enter Try.func7, Try.ntmps7
  go_upto_if 54 with (go_at_call 22; refine (bytes22 _ _ _ _ _ _ _ _ _ _ _ _ _ _ _ _ _ _ _ _ _ _ _ _ _ _ _ _ _ _ m0 m1 m2 m3 m4 m5 m6 m8 m9).mono ?_; rintro e w1 ⟨⟨bb, rfl⟩, hw1⟩; have hw2 := hw1.symm; subst hw2; clear hw1)
  cases bb
  · go_wp2
    go_ret
    exact ⟨rfl, Below.refl _ _⟩
  · go_wp2
    go_ret
    exact ⟨rfl, Below.refl _ _⟩

set_option maxRecDepth 100000 in
set_option maxHeartbeats 4000000 in
theorem law7_6 (a0 a1 a2 a3 a4 a5 a6 a8 a9 : Option Addr) (n0 n1 n2 n3 n4 n5 n6 n8 n9 c0 c1 c2 c3 c4 c5 c6 c8 c9 : Nat) (pos kept : Int) (w : World) (m0 : n0 ≤ 9223372036854775807) (m1 : n1 ≤ 9223372036854775807) (m2 : n2 ≤ 9223372036854775807) (m3 : n3 ≤ 9223372036854775807) (m4 : n4 ≤ 9223372036854775807) (m5 : n5 ≤ 9223372036854775807) (m6 : n6 ≤ 9223372036854775807) (m8 : n8 ≤ 9223372036854775807) (m9 : n9 ≤ 9223372036854775807) (q0 : n0 ≤ 131072) (q1 : n1 ≤ 131072) (q2 : n2 ≤ 131072) (q3 : n3 ≤ 131072) (q4 : n4 ≤ 131072) (q5 : n5 ≤ 131072) (q6 : ¬ n6 ≤ 262144) :
    Calls Try.prog 7 #[.slice a0 n0 c0, .slice a1 n1 c1, .slice a2 n2 c2, .slice a3 n3 c3, .slice a4 n4 c4, .slice a5 n5 c5, .slice a6 n6 c6, .int .u32 pos, .slice a8 n8 c8, .slice a9 n9 c9, .int .i64 kept] w fun e w' => e = .returned (.bool true) ∧ Below w.heap.size w w' := by
  have p0 : decide ((131072 : Int) < (n0 : Int)) = false := by simp; omega
  have p1 : decide ((131072 : Int) < (n1 : Int)) = false := by simp; omega
  have p2 : decide ((131072 : Int) < (n2 : Int)) = false := by simp; omega
  have p3 : decide ((131072 : Int) < (n3 : Int)) = false := by simp; omega
  have p4 : decide ((131072 : Int) < (n4 : Int)) = false := by simp; omega
  have p5 : decide ((131072 : Int) < (n5 : Int)) = false := by simp; omega
  have p6 : decide ((262144 : Int) < (n6 : Int)) = true := by simp; omega
  go_enter Try.func7, Try.ntmps7
  go_upto_if 54 with (go_at_call 22; refine (bytes22 _ _ _ _ _ _ _ _ _ _ _ _ _ _ _ _ _ _ _ _ _ _ _ _ _ _ _ _ _ _ m0 m1 m2 m3 m4 m5 m6 m8 m9).mono ?_; rintro e w1 ⟨⟨bb, rfl⟩, hw1⟩; have hw2 := hw1.symm; subst hw2; clear hw1)
  cases bb
  · go_wp2
    go_ret
    exact ⟨rfl, Below.refl _ _⟩
  · go_wp2
    go_ret
    exact ⟨rfl, Below.refl _ _⟩

set_option maxRecDepth 100000 in
set_option maxHeartbeats 4000000 in
theorem law7_8 (a0 a1 a2 a3 a4 a5 a6 a8 a9 : Option Addr) (n0 n1 n2 n3 n4 n5 n6 n8 n9 c0 c1 c2 c3 c4 c5 c6 c8 c9 : Nat) (pos kept : Int) (w : World) (m0 : n0 ≤ 9223372036854775807) (m1 : n1 ≤ 9223372036854775807) (m2 : n2 ≤ 9223372036854775807) (m3 : n3 ≤ 9223372036854775807) (m4 : n4 ≤ 9223372036854775807) (m5 : n5 ≤ 9223372036854775807) (m6 : n6 ≤ 9223372036854775807) (m8 : n8 ≤ 9223372036854775807) (m9 : n9 ≤ 9223372036854775807) (q0 : n0 ≤ 131072) (q1 : n1 ≤ 131072) (q2 : n2 ≤ 131072) (q3 : n3 ≤ 131072) (q4 : n4 ≤ 131072) (q5 : n5 ≤ 131072) (q6 : n6 ≤ 262144) (q8 : ¬ n8 ≤ 131072) :
    Calls Try.prog 7 #[.slice a0 n0 c0, .slice a1 n1 c1, .slice a2 n2 c2, .slice a3 n3 c3, .slice a4 n4 c4, .slice a5 n5 c5, .slice a6 n6 c6, .int .u32 pos, .slice a8 n8 c8, .slice a9 n9 c9, .int .i64 kept] w fun e w' => e = .returned (.bool true) ∧ Below w.heap.size w w' := by
  have p0 : decide ((131072 : Int) < (n0 : Int)) = false := by simp; omega
  have p1 : decide ((131072 : Int) < (n1 : Int)) = false := by simp; omega
  have p2 : decide ((131072 : Int) < (n2 : Int)) = false := by simp; omega
  have p3 : decide ((131072 : Int) < (n3 : Int)) = false := by simp; omega
  have p4 : decide ((131072 : Int) < (n4 : Int)) = false := by simp; omega
  have p5 : decide ((131072 : Int) < (n5 : Int)) = false := by simp; omega
  have p6 : decide ((262144 : Int) < (n6 : Int)) = false := by simp; omega
  have p8 : decide ((131072 : Int) < (n8 : Int)) = true := by simp; omega
  go_enter Try.func7, Try.ntmps7
  go_upto_if 54 with (go_at_call 22; refine (bytes22 _ _ _ _ _ _ _ _ _ _ _ _ _ _ _ _ _ _ _ _ _ _ _ _ _ _ _ _ _ _ m0 m1 m2 m3 m4 m5 m6 m8 m9).mono ?_; rintro e w1 ⟨⟨bb, rfl⟩, hw1⟩; have hw2 := hw1.symm; subst hw2; clear hw1)
  cases bb
  · go_wp2
    go_ret
    exact ⟨rfl, Below.refl _ _⟩
  · go_wp2
    go_ret
    exact ⟨rfl, Below.refl _ _⟩

set_option maxRecDepth 100000 in
set_option maxHeartbeats 4000000 in
theorem law7_9 (a0 a1 a2 a3 a4 a5 a6 a8 a9 : Option Addr) (n0 n1 n2 n3 n4 n5 n6 n8 n9 c0 c1 c2 c3 c4 c5 c6 c8 c9 : Nat) (pos kept : Int) (w : World) (m0 : n0 ≤ 9223372036854775807) (m1 : n1 ≤ 9223372036854775807) (m2 : n2 ≤ 9223372036854775807) (m3 : n3 ≤ 9223372036854775807) (m4 : n4 ≤ 9223372036854775807) (m5 : n5 ≤ 9223372036854775807) (m6 : n6 ≤ 9223372036854775807) (m8 : n8 ≤ 9223372036854775807) (m9 : n9 ≤ 9223372036854775807) (q0 : n0 ≤ 131072) (q1 : n1 ≤ 131072) (q2 : n2 ≤ 131072) (q3 : n3 ≤ 131072) (q4 : n4 ≤ 131072) (q5 : n5 ≤ 131072) (q6 : n6 ≤ 262144) (q8 : n8 ≤ 131072) (q9 : ¬ n9 ≤ 131072) :
    Calls Try.prog 7 #[.slice a0 n0 c0, .slice a1 n1 c1, .slice a2 n2 c2, .slice a3 n3 c3, .slice a4 n4 c4, .slice a5 n5 c5, .slice a6 n6 c6, .int .u32 pos, .slice a8 n8 c8, .slice a9 n9 c9, .int .i64 kept] w fun e w' => e = .returned (.bool true) ∧ Below w.heap.size w w' := by
  have p0 : decide ((131072 : Int) < (n0 : Int)) = false := by simp; omega
  have p1 : decide ((131072 : Int) < (n1 : Int)) = false := by simp; omega
  have p2 : decide ((131072 : Int) < (n2 : Int)) = false := by simp; omega
  have p3 : decide ((131072 : Int) < (n3 : Int)) = false := by simp; omega
  have p4 : decide ((131072 : Int) < (n4 : Int)) = false := by simp; omega
  have p5 : decide ((131072 : Int) < (n5 : Int)) = false := by simp; omega
  have p6 : decide ((262144 : Int) < (n6 : Int)) = false := by simp; omega
  have p8 : decide ((131072 : Int) < (n8 : Int)) = false := by simp; omega
  have p9 : decide ((131072 : Int) < (n9 : Int)) = true := by simp; omega
  go_enter Try.func7, Try.ntmps7
  go_upto_if 54 with (go_at_call 22; refine (bytes22 _ _ _ _ _ _ _ _ _ _ _ _ _ _ _ _ _ _ _ _ _ _ _ _ _ _ _ _ _ _ m0 m1 m2 m3 m4 m5 m6 m8 m9).mono ?_; rintro e w1 ⟨⟨bb, rfl⟩, hw1⟩; have hw2 := hw1.symm; subst hw2; clear hw1)
  cases bb
  · go_wp2
    go_ret
    exact ⟨rfl, Below.refl _ _⟩
  · go_wp2
    go_ret
    exact ⟨rfl, Below.refl _ _⟩

set_option maxRecDepth 100000 in
set_option maxHeartbeats 4000000 in
theorem law7_t (a0 a1 a2 a3 a4 a5 a6 a8 a9 : Option Addr) (n0 n1 n2 n3 n4 n5 n6 n8 n9 c0 c1 c2 c3 c4 c5 c6 c8 c9 : Nat) (pos kept : Int) (w : World) (m0 : n0 ≤ 9223372036854775807) (m1 : n1 ≤ 9223372036854775807) (m2 : n2 ≤ 9223372036854775807) (m3 : n3 ≤ 9223372036854775807) (m4 : n4 ≤ 9223372036854775807) (m5 : n5 ≤ 9223372036854775807) (m6 : n6 ≤ 9223372036854775807) (m8 : n8 ≤ 9223372036854775807) (m9 : n9 ≤ 9223372036854775807) (q0 : n0 ≤ 131072) (q1 : n1 ≤ 131072) (q2 : n2 ≤ 131072) (q3 : n3 ≤ 131072) (q4 : n4 ≤ 131072) (q5 : n5 ≤ 131072) (q6 : n6 ≤ 262144) (q8 : n8 ≤ 131072) (q9 : n9 ≤ 131072) (tot : ¬ 8 * (n0 + n1 + n2 + n3 + n4 + n5 + n8 + n9) + 4 * n6 ≤ 1048576) :
    Calls Try.prog 7 #[.slice a0 n0 c0, .slice a1 n1 c1, .slice a2 n2 c2, .slice a3 n3 c3, .slice a4 n4 c4, .slice a5 n5 c5, .slice a6 n6 c6, .int .u32 pos, .slice a8 n8 c8, .slice a9 n9 c9, .int .i64 kept] w fun e w' => e = .returned (.bool true) ∧ Below w.heap.size w w' := by
  have p0 : decide ((131072 : Int) < (n0 : Int)) = false := by simp; omega
  have p1 : decide ((131072 : Int) < (n1 : Int)) = false := by simp; omega
  have p2 : decide ((131072 : Int) < (n2 : Int)) = false := by simp; omega
  have p3 : decide ((131072 : Int) < (n3 : Int)) = false := by simp; omega
  have p4 : decide ((131072 : Int) < (n4 : Int)) = false := by simp; omega
  have p5 : decide ((131072 : Int) < (n5 : Int)) = false := by simp; omega
  have p6 : decide ((262144 : Int) < (n6 : Int)) = false := by simp; omega
  have p8 : decide ((131072 : Int) < (n8 : Int)) = false := by simp; omega
  have p9 : decide ((131072 : Int) < (n9 : Int)) = false := by simp; omega
  go_enter Try.func7, Try.ntmps7
  go_upto_if 54 with (go_at_call 22; refine (bytes22 _ _ _ _ _ _ _ _ _ _ _ _ _ _ _ _ _ _ _ _ _ _ _ _ _ _ _ _ _ _ m0 m1 m2 m3 m4 m5 m6 m8 m9).mono ?_; rintro e w1 ⟨⟨bb, rfl⟩, hw1⟩; have hw2 := hw1.symm; subst hw2; clear hw1)
  cases bb
  · go_wp2
    go_ret
    exact ⟨rfl, Below.refl _ _⟩
  · go_wp2
    go_ret
    exact ⟨rfl, Below.refl _ _⟩

end Go.Proofs.Qxb6604322a.Ring
