/-
  zzBytes (6, 10, 15), zzTrxCopy (7), zzSameTrx (14), ZZViewFields (13), slices.BinarySearch (20), Judge (9): the walks.
-/
import Derived.Test.Qxb6605226aOwn
import Derived.Test.Qxb6605226aSrt0
import Derived.WalkSmall
import Derived.OpenShut
import Derived.Lib.SliceRun
namespace Go.Proofs.Qxb6605226a.View
open Go.ChangeShapes Go.WideShapes Go.ChangeAt Go.RowKit Mem
set_option linter.unusedVariables false
set_option linter.unusedSimpArgs false

theorem hide2 {p q : Prop} (h : p) (k : q) : Hid (p ∧ q) := ⟨h, k⟩

theorem bytes6 (x1 x3 x4 : Value) (a : Option Addr) (n c : Nat) (w : World) (hn : n ≤ 9223372036854775807) :
    Calls Try.prog 6 #[x1, .slice a n c, x3, x4] w fun e w' => e = .returned (.bool (decide (n ≤ 1048576))) ∧ w' = w := by
  by_cases h : n ≤ 1048576
  · go_enter Try.func6, Try.ntmps6
    go_wp2
    go_ret
    exact ⟨by simp [h], rfl⟩
  · go_enter Try.func6, Try.ntmps6
    go_wp2
    go_ret
    exact ⟨by simp [h], rfl⟩
theorem bytes10 (x1 x3 : Value) (a : Option Addr) (n c : Nat) (w : World) (hn : n ≤ 9223372036854775807) :
    Calls Try.prog 10 #[x1, .slice a n c, x3] w fun e w' => e = .returned (.bool (decide (n ≤ 1048576))) ∧ w' = w := by
  by_cases h : n ≤ 1048576
  · go_enter Try.func10, Try.ntmps10
    go_wp2
    go_ret
    exact ⟨by simp [h], rfl⟩
  · go_enter Try.func10, Try.ntmps10
    go_wp2
    go_ret
    exact ⟨by simp [h], rfl⟩
theorem bytes15 (x1 x3 : Value) (a : Option Addr) (n c : Nat) (w : World) (hn : n ≤ 9223372036854775807) :
    Calls Try.prog 15 #[x1, .slice a n c, x3] w fun e w' => e = .returned (.bool (decide (n ≤ 1048576))) ∧ w' = w := by
  by_cases h : n ≤ 1048576
  · go_enter Try.func15, Try.ntmps15
    go_wp2
    go_ret
    exact ⟨by simp [h], rfl⟩
  · go_enter Try.func15, Try.ntmps15
    go_wp2
    go_ret
    exact ⟨by simp [h], rfl⟩

theorem tinfo27 : (Try.prog.info? 27).map (fun i => (i.zero, i.size, i.bytes)) = some (some (.int .u64 0), 1, 8) := by kernel_rfl

/-- A slice of TrxIDs in a block of its own, from B on; or nil. -/
def Vec (B : Nat) (w : World) (v : Value) (zs : List Int) : Prop :=
  (v = .slice none 0 0 ∧ zs = []) ∨ ∃ b C g, v = .slice (some ⟨b, 0, none⟩) zs.length C ∧ B ≤ b ∧ zs.length ≤ C ∧ w.rowIs b 27 C g ∧ ∀ i, i < zs.length → g i = .int .u64 (zs.getD i 0)

theorem Vec.rd {B : Nat} {w : World} {v : Value} {zs : List Int} (h : Vec B w v zs) : RdS (fun b => B ≤ b) .u64 w v zs := by
  rcases h with ⟨rfl, rfl⟩ | ⟨b, C, g, rfl, hb, hc, hr, hg⟩
  · exact ⟨none, 0, rfl, by simp, fun h0 => by simp at h0⟩
  · exact ⟨_, _, rfl, hc, fun h0 => ⟨b, 0, rfl, hb, hr.lt, fun i hi => by rw [Nat.zero_add, ← hg i hi]; exact hr.cell (by omega)⟩⟩

def CopyPost (zs : List Int) (w : World) (e : Ending) (w' : World) : Prop := ∃ v, e = .returned v ∧ Vec w.heap.size w' v zs ∧ Below w.heap.size w w'

set_option maxHeartbeats 2000000 in
theorem copy_any (v : Value) (zs : List Int) (w : World) (hs : RdS (fun _ => True) .u64 w v zs) (hl : zs.length ≤ 1048576) (hz : ∀ i, 0 ≤ zs.getD i 0 ∧ zs.getD i 0 ≤ 18446744073709551615) (hnil : ∀ c, v = .slice none 0 c → c = 0) :
    Calls Try.prog 7 #[v] w (CopyPost zs w) := by
  obtain ⟨a, c, rfl, hcap, hp⟩ := hs
  cases a with
  | none =>
    by_cases h0 : 0 < zs.length
    · obtain ⟨b, o, he, _⟩ := hp h0; cases he
    · have e0 : zs = [] := List.length_eq_zero_iff.1 (by omega)
      subst e0
      have hnil' := fun w => Lib.run_eql_slice_nil (P := Try.prog) w 23 22 none 0 c 0 0 Try.underlying23
      clear hp hz hnil
      go_enter Try.func7, Try.ntmps7
      go_wp2
      go_ret
      exact ⟨_, rfl, .inl ⟨rfl, rfl⟩, Below.refl _ _⟩
  | some x =>
    obtain ⟨n, HN⟩ : ∃ n, Hid (n = zs.length) := ⟨_, rfl⟩
    rw [← HN.out] at hp hcap hl ⊢
    have hnil' := fun w => Lib.run_eql_slice_nil (P := Try.prog) w 23 22 (some x) n c 0 0 Try.underlying23
    have hmk := run_make_row' (P := Try.prog) 25 27 (.int .u64 0) 8 Try.underlying25 tinfo27 rfl .i64 .i64 n (by omega) (by omega)
    have HP := hide2 hp hz
    clear hp hz hnil
    go_enter Try.func7, Try.ntmps7
    go_wp2
    go_loopw [4] (fun t wr => ∃ k : Nat, k ≤ n ∧ t = .int .i64 (k : Int) ∧ wr.rowIs w.heap.size 27 n (fun i => if i < k then .int .u64 (zs.getD i 0) else .int .u64 0) ∧ Below w.heap.size w wr) (fun t _ => n - (intOf t).toNat)
    case atStart => exact ⟨0, Nat.zero_le _, rfl, (World.rowIs_made w _ n 27).congr (fun i _ => by simp), (Below.refl _ _).alloc (Nat.le_refl _) _⟩
    case round =>
      obtain ⟨k, hk, rfl, hrow, hbel⟩ := hrel
      by_cases hlt : k < n
      · have hlt' : (k : Int) < (n : Int) := by omega
        obtain ⟨b, off, hx, _, hb, hpl⟩ := HP.out.1 (by omega)
        injection hx with hx
        subst hx
        have c1 : wr.cell? ⟨b, off + k, none⟩ = some (.int .u64 (zs.getD k 0)) := by
          rw [hbel.cell (p := ⟨b, off + k, none⟩) hb]; exact hpl k hlt
        have c2 := hrow.cell hlt
        have f2 := hrow.frozen k
        have HR : Hid ((wr.setCell ⟨w.heap.size, k, none⟩ (.int .u64 (zs.getD k 0))).rowIs w.heap.size 27 n (fun i => if i < k + 1 then .int .u64 (zs.getD i 0) else .int .u64 0)) := by
          refine (hrow.set k _).congr (fun i _ => ?_)
          by_cases e : i = k
          · subst e; simp
          · rw [if_neg e]
            by_cases hl : i < k
            · rw [if_pos hl, if_pos (by omega)]
            · rw [if_neg hl, if_neg (by omega)]
        have HB : Hid (Below w.heap.size w (wr.setCell ⟨w.heap.size, k, none⟩ (.int .u64 (zs.getD k 0)))) := hbel.setCell (Nat.le_refl _) _
        obtain ⟨z1, z2⟩ := HP.out.2 k
        clear hpl hrow
        generalize zs.getD k 0 = v at c1 HR HB z1 z2
        go_wp2
        go_roundw
        case rel => exact ⟨k + 1, by omega, by go_num, HR.out, HB.out⟩
        case measure => simp [intOf]; omega
      · have hkl : k = n := by omega
        subst hkl
        go_wp2
        go_ret
        refine ⟨.slice (some ⟨w.heap.size, 0, none⟩) k k, rfl, .inr ⟨w.heap.size, k, _, by rw [← HN.out], Nat.le_refl _, by rw [← HN.out]; exact Nat.le_refl _, hrow, fun i hi => by rw [← HN.out] at hi; rw [if_pos hi]⟩, hbel⟩

end Go.Proofs.Qxb6605226a.View
