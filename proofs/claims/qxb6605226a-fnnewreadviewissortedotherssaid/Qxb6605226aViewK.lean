/-
  zzTrxWithout (12): the walk.
-/
import Derived.Test.Qxb6605226aViewJ
namespace Go.Proofs.Qxb6605226a.View
open Go.ChangeShapes Go.WideShapes Go.ChangeAt Go.RowKit Mem
set_option linter.unusedVariables false
set_option linter.unusedSimpArgs false

theorem info27 : ∃ i0, Try.prog.info? 27 = some i0 ∧ i0.zero = some (.int .u64 0) ∧ i0.size = 1 ∧ i0.bytes = 8 := by
  have := tinfo27
  cases hq : Try.prog.info? 27 with
  | none => rw [hq] at this; cases this
  | some i0 =>
    rw [hq] at this
    simp at this
    exact ⟨i0, rfl, this.1, this.2.1, this.2.2⟩

theorem make_own (n : Nat) (hn : n ≤ 2000000) (W : World) : ∃ w', (Instr.makeSlice 25 (.int .i64 0) (.int .i64 (n : Int))).run Try.prog W = .ok (.slice (some ⟨W.heap.size, 0, none⟩) 0 n) w' ∧ w'.ownsRow W.heap.size 27 1 (.slice (some ⟨W.heap.size, 0, none⟩) 0 n) 0 [] ∧ W.grownBy w' none := by
  obtain ⟨i0, h0, h1, h2, h3⟩ := info27
  exact run_make_own W W.heap.size 25 27 i0 (.int .u64 0) 1 under25 h0 h1 h2 .i64 .i64 n (by rw [h3]; omega) (by unfold maxLen; omega) (Nat.le_refl _)

set_option maxRecDepth 100000 in
set_option maxHeartbeats 4000000 in
theorem without_any (own : Int) (v : Value) (zs : List Int) (w : World) (hs : RdS (fun _ => True) .u64 w v zs) (hl : zs.length ≤ 200000) :
    Calls Try.prog 12 #[v, .int .u64 own] w (fun e w' => ∃ v' g, e = .returned v' ∧ Got w w' v' (others own zs) (some g)) := by
  obtain ⟨a, c, rfl, hcap, hp⟩ := hs
  obtain ⟨n, HN⟩ : ∃ n, Hid (n = zs.length) := ⟨_, rfl⟩
  rw [← HN.out] at hp hcap hl ⊢
  have HP1 : Hid _ := hp
  clear hp
  obtain ⟨w2, hmk, hrow, hgr⟩ := make_own n (by omega) w
  have HG0 : Hid (Got w w2 (.slice (some ⟨w.heap.size, 0, none⟩) 0 n) [] (some w.heap.size)) := ⟨.inr ⟨w.heap.size, rfl, rfl, hrow⟩, (Below.refl _ _).grown hgr (Nat.le_refl _) (fun k hk => by cases hk)⟩
  clear hrow hgr
  go_enter Try.func12, Try.ntmps12
  go_wp2_with fail
  clear hmk
  go_loopw [5, 6] (fun u t wr => ∃ (k g : Nat), k ≤ n ∧ t = .int .i64 (k : Int) ∧ Hid (Got w wr u (others own (zs.take k)) (some g))) (fun _ t _ => n - (intOf t).toNat)
  case atStart => exact ⟨0, _, by omega, rfl, HG0⟩
  case round =>
    clear HG0
    obtain ⟨k, g, hk, rfl, HG⟩ := hrel
    by_cases hlt : k < n
    case pos =>
      obtain ⟨b, o, hab, _, hblt, hcs⟩ := HP1.out (by omega)
      subst hab
      obtain ⟨y, HY⟩ : ∃ y, Hid (zs.getD k 0 = y) := ⟨_, rfl⟩
      have hy := (HG.out.2.cell (p := ⟨b, o + k, none⟩) hblt).trans (hcs k hlt)
      rw [HY.out] at hy
      have hlt' : (k : Int) < (n : Int) := by omega
      have HOT : Hid (others own (zs.take (k + 1)) = if y = own then others own (zs.take k) else others own (zs.take k) ++ [y]) := by
        rw [← HY.out]; exact others_step (by rw [← HN.out]; exact hlt)
      clear hcs
      by_cases hyo : y = own
      · have hd : (y != own) = false := by simp [hyo]
        have HG2 : Hid (Got w wr u5 (others own (zs.take (k + 1))) (some g)) := by show Got _ _ _ _ _; rw [HOT.out, if_pos hyo]; exact HG.out
        clear hyo
        go_wp2
        go_roundw
        case rel => exact ⟨k + 1, g, by omega, by go_num, HG2⟩
        case measure => simp [intOf]; omega
      · have hd : (y != own) = true := by simpa using hyo
        obtain ⟨pre, HPR⟩ : ∃ pre, Hid (pre = others own (zs.take k)) := ⟨_, rfl⟩
        rw [← HPR.out] at HG
        have hlen : pre.length ≤ 10000000 := by
          rw [HPR.out]
          have h1 := others_len own (zs.take k)
          rw [List.length_take] at h1
          omega
        have HNX : Hid (others own (zs.take (k + 1)) = pre ++ [y]) := by show _ = _; rw [HOT.out, if_neg hyo, HPR.out]
        have hsz := HG.out.2.size
        clear hyo
        go_wp2_with (at_builtin; refine wpList_append_mine (by rfl) _ _ _ (by rfl) under25 tinfo27 (by decide) w.heap.size _ u5 pre (some g) (by rfl) (by exact HG.out.1.alloc hsz _) (by simp; omega) hlen _ _ y (by rfl) (by exact Mem.one_cell _ _ _) ?_; intro g2 cap2 w4 hown2 hgrow2 hrow2 hlt2; have HG3 : Hid (Got w w4 _ _ _) := HG.out.step (grown_none_alloc _ _) hown2 hgrow2; clear hown2 hgrow2 hrow2)
        go_roundw
        case rel => exact ⟨k + 1, g2, by omega, by go_num, by show Got _ _ _ _ _; rw [HNX.out]; exact HG3.out⟩
        case measure => simp [intOf]; omega
    case neg =>
      have HT : Hid (zs.take k = zs) := List.take_of_length_le (by rw [← HN.out]; omega)
      have HG2 : Hid (Got w wr u5 (others own zs) (some g)) := by
        have := HG.out
        rw [HT.out] at this
        exact this
      go_wp2
      go_ret
      exact ⟨_, g, rfl, HG2.out⟩

end Go.Proofs.Qxb6605226a.View
