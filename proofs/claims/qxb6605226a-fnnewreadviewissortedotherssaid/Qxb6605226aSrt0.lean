/-
  cmp.isNaN, slices.isNaN, cmp.Less at TrxID: the walks.
-/
import Derived.Test.Qxb6605226aChecked
import Derived.WalkKit
import Derived.ProofKit
import Derived.Below
import Derived.Lib.Walk
import Derived.Sort.Row
namespace Go.Proofs.Qxb6605226a.Srt
open Go.RowKit Go.Sort
set_option linter.unusedVariables false
set_option linter.unusedSimpArgs false

/-- A TrxID as a value. -/
abbrev encU : Int → Value := Value.int .u64

theorem nan36 (x : Int) (w : World) : Calls Try.prog 36 #[.int .u64 x] w fun e w' => e = .returned (.bool false) ∧ w' = w := by
  have h : (x != x) = false := by simp
  go_enter Try.func36, Try.ntmps36
  go_wp2
  go_ret
  exact ⟨rfl, rfl⟩
theorem nan25 (x : Int) (w : World) : Calls Try.prog 25 #[.int .u64 x] w fun e w' => e = .returned (.bool false) ∧ w' = w := by
  have h : (x != x) = false := by simp
  go_enter Try.func25, Try.ntmps25
  go_wp2
  go_ret
  exact ⟨rfl, rfl⟩
set_option maxHeartbeats 1000000 in
theorem less_u (x y : Int) (w : World) : Calls Try.prog 24 #[.int .u64 x, .int .u64 y] w fun e w' => e = .returned (.bool (ltInt x y)) ∧ w' = w := by
  go_enter Try.func24, Try.ntmps24
  go_wp2_with (go_at_call 36; refine (nan36 _ _).mono ?_; rintro e w1 ⟨rfl, rfl⟩)
  all_goals
    go_ret
    exact ⟨by simp [ltInt], rfl⟩

end Go.Proofs.Qxb6605226a.Srt
