/-
  zzSameTrx (14), ZZViewFields (13), slices.BinarySearch (20), Judge (9): the walks.
-/
import Derived.Test.Qxb6605226aViewA
import Derived.Deep.QuietTactic
namespace Go.Proofs.Qxb6605226a.View
open Go.ChangeShapes Go.WideShapes Go.ChangeAt Go.RowKit Mem
set_option linter.unusedVariables false
set_option linter.unusedSimpArgs false

theorem eq_of_getD {xs ys : List Int} (hl : xs.length = ys.length) (h : ∀ i, i < xs.length → xs.getD i 0 = ys.getD i 0) : xs = ys := by
  refine List.ext_getElem hl (fun i h1 h2 => ?_)
  have := h i h1
  simpa [h1, h2] using this

set_option maxHeartbeats 2000000 in
theorem same_any (u v : Value) (xs ys : List Int) (w : World) (h1 : RdS (fun _ => True) .u64 w u xs) (h2 : RdS (fun _ => True) .u64 w v ys) (hl : xs.length ≤ 10000000) (hl2 : ys.length ≤ 10000000) :
    Calls Try.prog 14 #[u, v] w fun e w' => e = .returned (.bool (decide (xs = ys))) ∧ ∃ d, w' = w.drewN d := by
  obtain ⟨a, c, rfl, _, p1⟩ := h1
  obtain ⟨a', c', rfl, _, p2⟩ := h2
  obtain ⟨n, HN⟩ : ∃ n, Hid (n = xs.length) := ⟨_, rfl⟩
  obtain ⟨m, HM⟩ : ∃ m, Hid (m = ys.length) := ⟨_, rfl⟩
  rw [← HN.out] at p1 hl ⊢
  rw [← HM.out] at p2 hl2 ⊢
  have HP := hide2 p1 p2
  clear p1 p2
  by_cases e : n = m
  case neg =>
    have hne : ((n : Int) != (m : Int)) = true := by simp; omega
    have HF : Hid (decide (xs = ys) = false) := by
      show _ = _
      simp
      intro h
      rw [HN.out, HM.out, h] at e
      exact e rfl
    go_enter Try.func14, Try.ntmps14
    go_wp2
    go_ret
    exact ⟨by rw [HF.out]; rfl, 0, rfl⟩
  case pos =>
    subst e
    go_enter Try.func14, Try.ntmps14
    go_wp2_with fail
    go_loopw [5] (fun t wr => ∃ k d : Nat, k ≤ n ∧ t = .int .i64 (k : Int) ∧ Hid (wr = w.drewN d) ∧ Hid (∀ i, i < k → xs.getD i 0 = ys.getD i 0)) (fun t _ => n - (intOf t).toNat)
    case atStart => exact ⟨0, 0, by omega, rfl, rfl, fun i hi => by omega⟩
    case round =>
      obtain ⟨k, d, hk, rfl, HW, HI⟩ := hrel
      have HWB : Hid (Below w.heap.size w wr) := by rw [HW.out]; exact below_drewN (Below.refl _ _) _
      by_cases hlt : k < n
      case neg =>
        have HF : Hid (decide (xs = ys) = true) := by
          show _ = _
          simp
          exact eq_of_getD (by rw [← HN.out, ← HM.out]) (fun i hi => HI.out i (by rw [← HN.out] at hi; omega))
        go_wp2
        go_ret
        exact ⟨by rw [HF.out]; rfl, d, HW.out⟩
      case pos =>
        obtain ⟨b, o, rfl, _, q1, c1⟩ := HP.out.1 (by omega)
        obtain ⟨b', o', rfl, _, q2, c2⟩ := HP.out.2 (by omega)
        have k1 := (HWB.out.cell (p := ⟨b, o + k, none⟩) q1).trans (c1 k hlt)
        have k2 := (HWB.out.cell (p := ⟨b', o' + k, none⟩) q2).trans (c2 k hlt)
        obtain ⟨x, HX⟩ : ∃ x, Hid (xs.getD k 0 = x) := ⟨_, rfl⟩
        obtain ⟨y, HY⟩ : ∃ y, Hid (ys.getD k 0 = y) := ⟨_, rfl⟩
        rw [HX.out] at k1
        rw [HY.out] at k2
        have hlt' : (k : Int) < (n : Int) := by omega
        clear c1 c2
        by_cases hxy : x = y
        · have hb : (x != y) = false := by simp [hxy]
          have HS : Hid (∀ i, i < k + 1 → xs.getD i 0 = ys.getD i 0) := fun i hi => by
            by_cases e : i = k
            · subst e; rw [HX.out, HY.out, hxy]
            · exact HI.out i (by omega)
          clear hxy
          go_wp2_with fail
          go_quiet (fail)
          go_wp2
          go_roundw
          case rel => exact ⟨k + 1, _, by omega, by go_num, by show _ = _; rw [HW.out]; exact World.drewN_drewN .., HS⟩
          case measure => simp [intOf]; omega
        · have hb : (x != y) = true := by simpa using hxy
          have HF : Hid (decide (xs = ys) = false) := by
            show _ = _
            simp
            intro h
            rw [h] at HX
            exact hxy (HX.out.symm.trans HY.out)
          clear hxy
          go_wp2_with fail
          go_quiet (fail)
          go_wp2
          go_ret
          exact ⟨by rw [HF.out]; rfl, _, by rw [HW.out]; exact World.drewN_drewN ..⟩

theorem results_tmp4 {fn : Func} {t u v x : Tmp} (h : fn.results = #[.tmp t, .tmp u, .tmp v, .tmp x]) (tmps : Array Value) (P : Program) (w : World) :
    (results fn tmps).run P w = .ok (.tuple #[tmps.getD t undef, tmps.getD u undef, tmps.getD v undef, tmps.getD x undef]) w := by
  simp [results, h]

theorem fields_any (a b c d : Value) (w : World) : Calls Try.prog 13 #[.agg #[a, b, c, d]] w fun e w' => e = .returned (.tuple #[a, b, c, d]) ∧ Below w.heap.size w w' := by
  go_enter Try.func13, Try.ntmps13
  go_wp2_with fail
  obtain ⟨W, hW⟩ : ∃ W, W = w.alloc (.cells #[a, b, c, d] 29) := ⟨_, rfl⟩
  have hb : W.heap[w.heap.size]? = some (.cells #[a, b, c, d] 29 (0, 0)) := by rw [hW]; exact heap_alloc_new w _
  have HBW : Hid (Below w.heap.size w W) := by rw [hW]; exact (Below.refl _ _).alloc (Nat.le_refl _) _
  have c0 : W.cell? ⟨w.heap.size, 0, none⟩ = some a := by rw [cell_of_row W _ 0 _ 29 (0, 0) hb]; rfl
  have c1 : W.cell? ⟨w.heap.size, 1, none⟩ = some b := by rw [cell_of_row W _ 1 _ 29 (0, 0) hb]; rfl
  have c2 : W.cell? ⟨w.heap.size, 2, none⟩ = some c := by rw [cell_of_row W _ 2 _ 29 (0, 0) hb]; rfl
  have c3 : W.cell? ⟨w.heap.size, 3, none⟩ = some d := by rw [cell_of_row W _ 3 _ 29 (0, 0) hb]; rfl
  rw [← hW]
  clear hW hb
  go_quiet (fail)
  have HBN : Hid (Below w.heap.size w (W.drewN nq)) := ⟨HBW.out.os, HBW.out.tape, HBW.out.output, HBW.out.size, HBW.out.block⟩
  go_wp2
  refine bodyPost_ret (results_tmp4 rfl _ _ _) rfl ?_
  exact ⟨rfl, HBN.out⟩

end Go.Proofs.Qxb6605226a.View
