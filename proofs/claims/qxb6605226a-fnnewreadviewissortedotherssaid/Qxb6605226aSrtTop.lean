/-
  slices.Sort at TrxID (19): the walk, and its contract: the row holds the sorted list.
-/
import Derived.Sort.AssemblyPlain
import Derived.Test.Qxb6605226aSrtA
import Derived.Test.Qxb6605226aSrtC5
import Derived.Test.Qxb6605226aSrtC4
import Derived.Test.Qxb6605226aSrt7
import Derived.Test.Qxb6605226aSrt11
import Derived.Test.Qxb6605226aSrt13
namespace Go.Proofs.Qxb6605226a.Srt
open Go.RowKit Go.Sort Go.Proofs
set_option linter.unusedVariables false
set_option linter.unusedSimpArgs false

theorem callees_u : Callees13s :=
  { ins := insertionSort_u,
    brk := breakPatterns_u,
    piv := choosePivot_u,
    par := partialInsertionSort_u,
    peq := partitionEqualOrdered_u,
    prt := partitionOrdered_u }

theorem plain_u : Plain13s :=
  { swo := swo_ltInt,
    ins := insertionSort_holds,
    par := partialInsertionSort_holds,
    prt := partition_holds _,
    peq := partitionEqual_holds _,
    pdq := pdq_sorts _ }

theorem sort_eq (zs : List Int) : Sort.sort ltInt zs.toArray = (zs.mergeSort fun x y => decide (x ≤ y)).toArray := by
  rw [← sortInt zs]

set_option maxRecDepth 100000 in
/-- slices.Sort's own body. -/
theorem sort_any (blk off cap : Nat) (zs : List Int) (w : World) (hH : Holds encU w blk off zs.toArray) (hblk : blk < w.heap.size) (hsz : zs.length < 4611686018427387904) :
    Calls Try.prog 19 #[.slice (some ⟨blk, off, none⟩) zs.length cap] w fun e w' => e = .returned (.tuple #[]) ∧ ∃ n os, w' = grow (putRow encU (Sort.ahead w n) blk off (zs.mergeSort fun x y => decide (x ≤ y)).toArray) os := by
  have HH : Hid (Holds encU w blk off zs.toArray) := hH
  clear hH
  have hLen : ∀ w, Calls Try.prog 23 #[.int .u64 (zs.length : Int)] w fun e w' => e = .returned (.int .i64 (bitsLen zs.length : Nat)) ∧ w' = w := fun w => by
    have h := bits_Len (zs.length : Int) w (by omega) (by omega)
    rwa [Int.toNat_natCast, bitLen_eq _ (by omega)] at h
  have hk : bitsLen zs.length ≤ 62 := (bitsLen_le_iff zs.length 62).2 (by omega)
  have hp : ∀ w, Holds encU w blk off zs.toArray → blk < w.heap.size → Calls Try.prog 22 #[.slice (some ⟨blk, off, none⟩) zs.length cap, .int .i64 (0 : Nat), .int .i64 zs.length, .int .i64 (bitsLen zs.length : Nat)] w fun e w' => e = .returned (.tuple #[]) ∧ At encU w blk off (zs.mergeSort fun x y => decide (x ≤ y)).toArray w' := fun w h1 h2 => by
    have h := pdqsort_u callees_u plain_u (zs.length + 1) blk off cap 0 zs.length (bitsLen zs.length) zs.toArray w (by omega) h1 h2 (Nat.zero_le _) (by simp) (by simpa using hsz) (by omega) (Or.inl rfl)
    have e : pdq ltInt zs.toArray 0 zs.length (bitsLen zs.length) true true = (zs.mergeSort fun x y => decide (x ≤ y)).toArray := by
      rw [← sort_eq]
      unfold Sort.sort
      simp
    rw [e] at h
    simpa using h
  have HP : Hid _ := hp
  clear hp
  go_enter Try.func19, Try.ntmps19
  go_wp2_with (first
    | (go_at_call 23; refine (hLen _).mono ?_; rintro e w' ⟨rfl, rfl⟩)
    | (go_at_call 22; refine (HP.out _ HH.out hblk).mono ?_; rintro e w' ⟨rfl, n, os, rfl⟩))
  go_end0
  exact ⟨rfl, n, os, rfl⟩

end Go.Proofs.Qxb6605226a.Srt
