/-
  FnJudgeSeesExactlyOwnAndEndedWriters (3): the walk.
-/
import Derived.Test.Qxb6605226aViewF
namespace Go.Proofs.Qxb6605226a.View
open Go.ChangeShapes Go.WideShapes Go.ChangeAt Go.RowKit Mem
set_option linter.unusedVariables false
set_option linter.unusedSimpArgs false

theorem conv_u64 {x : Int} (h0 : 0 ≤ x) (h1 : x ≤ 18446744073709551615) : IntKind.u64.wrap x = x := by
  rw [IntKind.wrap_u64]; omega

set_option maxRecDepth 100000 in
set_option maxHeartbeats 4000000 in
theorem law3 (own next x : Int) (v : Value) (zs : List Int) (w : World) (hs : RdS (fun _ => True) .u64 w v zs) (hn : zs.length ≤ 9223372036854775807) (hz : ∀ i, 0 ≤ zs.getD i 0 ∧ zs.getD i 0 ≤ 18446744073709551615)
    (hnil : ∀ c, v = .slice none 0 c → c = 0) (ho : 0 ≤ own ∧ own ≤ 18446744073709551615) (hx : 0 ≤ next ∧ next ≤ 18446744073709551615) (hw : 0 ≤ x ∧ x ≤ 18446744073709551615) :
    Calls Try.prog 3 #[.int .u64 own, v, .int .u64 next, .int .u64 x] w fun e w' => e = .returned (.bool true) ∧ Below w.heap.size w w' := by
  have HS := hide2 hs (hide2 hz hnil)
  obtain ⟨a, c, rfl, hcap, hp⟩ := hs
  obtain ⟨n, HN⟩ : ∃ n, Hid (n = zs.length) := ⟨_, rfl⟩
  rw [← HN.out] at hp hcap hn HS ⊢
  have HP : Hid _ := hp
  obtain ⟨ho1, ho2⟩ := ho
  obtain ⟨hx1, hx2⟩ := hx
  obtain ⟨hw1, hw2⟩ := hw
  clear hp hz hnil
  by_cases h20 : n ≤ 1048576
  case neg =>
    have hd : decide (n ≤ 1048576) = false := by simpa using h20
    go_enter Try.func3, Try.ntmps3
    go_wp2_with fail
    refine (bytes6 (.int .u64 own) (.int .u64 next) (.int .u64 x) a n c w hn).mono ?_
    rintro e w1 ⟨rfl, hw1'⟩
    have hw3 := hw1'.symm
    subst hw3
    clear hw1'
    go_wp2
    go_ret
    exact ⟨rfl, Below.refl _ _⟩
  have hd20 : decide (n ≤ 1048576) = true := by simpa using h20
  by_cases h17 : n ≤ 131072
  case neg =>
    go_enter Try.func3, Try.ntmps3
    go_wp2_with fail
    refine (bytes6 (.int .u64 own) (.int .u64 next) (.int .u64 x) a n c w hn).mono ?_
    rintro e w1 ⟨rfl, hw1'⟩
    have hw3 := hw1'.symm
    subst hw3
    clear hw1'
    go_wp2
    go_ret
    exact ⟨rfl, Below.refl _ _⟩
  go_enter Try.func3, Try.ntmps3
  go_wp2_with fail
  refine (bytes6 (.int .u64 own) (.int .u64 next) (.int .u64 x) a n c w hn).mono ?_
  rintro e w1 ⟨rfl, hw1'⟩
  have hw3 := hw1'.symm
  subst hw3
  clear hw1'
  go_wp2_with fail
  go_loop [9] (fun t => ∃ k : Nat, k ≤ n ∧ t = .int .i64 (k : Int) ∧ Hid (∀ i, i < k → zs.getD i 0 < next)) (fun t => n - (intOf t).toNat)
  case atStart => exact ⟨0, by omega, rfl, fun i hi => by omega⟩
  case round =>
    obtain ⟨k, hk, rfl, HI⟩ := hrel
    by_cases hlt : k < n
    case pos =>
      obtain ⟨b, o, rfl, _, _, hc⟩ := HP.out (by omega)
      obtain ⟨y, HY⟩ : ∃ y, Hid (zs.getD k 0 = y) := ⟨_, rfl⟩
      have hcell := hc k hlt
      rw [HY.out] at hcell
      have hlt' : (k : Int) < (n : Int) := by omega
      clear hc
      by_cases hyx : next ≤ y
      · have hd : decide (next ≤ y) = true := by simpa using hyx
        clear hyx
        go_wp2
        go_ret
        exact ⟨rfl, Below.refl _ _⟩
      · have hd : decide (next ≤ y) = false := by simpa using hyx
        have HS2 : Hid (∀ i, i < k + 1 → zs.getD i 0 < next) := fun i hi => by
          by_cases e : i = k
          · subst e; rw [HY.out]; omega
          · exact HI.out i (by omega)
        clear hyx
        go_wp2
        go_round
        case rel => exact ⟨k + 1, by omega, by go_num, HS2⟩
        case measure => simp [intOf]; omega
    case neg =>
      have HO : Hid (∀ y ∈ zs, y < next) := fun y hy => by
        obtain ⟨j, hj, rfl⟩ := mem_getD hy
        rw [← HN.out] at hj
        exact HI.out j (by omega)
      clear HI
      go_wp2_with fail
      have T := copy_any (.slice a n c) zs w HS.out.1 (by rw [← HN.out]; omega) HS.out.2.out.1 HS.out.2.out.2
      refine T.mono ?_
      clear T
      rintro e w1 ⟨v1, rfl, hv1, hb1⟩
      have H1 := hide2 hv1 hb1
      obtain ⟨a1, c1, hv1', _, hp1⟩ := hv1.rd
      rw [← HN.out] at hv1' hp1
      subst hv1'
      have HP1 : Hid _ := hp1
      clear hp1 hv1 hb1
      go_wp2_with fail
      go_loop [12, 13] (fun tb t => ∃ (k : Nat) (o : Bool), k ≤ n ∧ t = .int .i64 (k : Int) ∧ tb = .bool o ∧ Hid (o = decide (x ∈ zs.take k))) (fun _ t => n - (intOf t).toNat)
      case atStart => exact ⟨0, false, by omega, rfl, rfl, by show _ = _; simp⟩
      case round =>
        obtain ⟨k, o, hk, rfl, rfl, HO2⟩ := hrel
        by_cases hlt : k < n
        case pos =>
          obtain ⟨b, q, rfl, _, _, hc⟩ := HP1.out (by omega)
          obtain ⟨y, HY⟩ : ∃ y, Hid (zs.getD k 0 = y) := ⟨_, rfl⟩
          have hcell := hc k hlt
          rw [HY.out] at hcell
          have hlt' : (k : Int) < (n : Int) := by omega
          have HT : Hid (zs.take (k + 1) = zs.take k ++ [y]) := by
            show _ = _
            rw [List.take_add_one, ← HY.out]
            simp [show k < zs.length from by rw [← HN.out]; exact hlt]
          clear hc
          by_cases hyx : y = x
          · have hd : (y == x) = true := by simpa using hyx
            have HS2 : Hid (true = decide (x ∈ zs.take (k + 1))) := by show _ = _; rw [HT.out, hyx]; simp
            clear hyx
            go_wp2
            go_round
            case rel => exact ⟨k + 1, true, by omega, by go_num, rfl, HS2⟩
            case measure => simp [intOf]; omega
          · have hd : (y == x) = false := by simpa using hyx
            have HS2 : Hid (o = decide (x ∈ zs.take (k + 1))) := by
              show _ = _
              rw [HO2.out, HT.out]
              simp
              intro h
              exact absurd h.symm hyx
            clear hyx
            go_wp2
            go_round
            case rel => exact ⟨k + 1, o, by omega, by go_num, rfl, HS2⟩
            case measure => simp [intOf]; omega
        case neg =>
          have HM : Hid (o = decide (x ∈ zs)) := by
            show _ = _
            rw [HO2.out, List.take_of_length_le (by rw [← HN.out]; omega)]
          clear HO2
          have HJ : Hid (∃ V : Int, verdict own ((act own zs).headD next) next x (foundB x (act own zs)) = V ∧ ((x = own ∧ V = 1) ∨ (x ≠ own ∧ x < next ∧ x ∉ zs ∧ (V = 2 ∨ V = 5)) ∨ (x ≠ own ∧ next ≤ x ∧ x ∉ zs ∧ V = 3) ∨ (x ≠ own ∧ x < next ∧ x ∈ zs ∧ V = 4))) := ⟨_, rfl, judge_facts own next x zs HO.out⟩
          obtain ⟨V, hV, hcase⟩ := HJ.out
          have HVE : Hid _ := hV
          clear HJ hV
          have HVW : Hid (∀ w2, Below w1.heap.size w1 w2 → Calls Try.prog 8 #[.int .u64 own, .slice a1 n c1, .int .u64 next] w2 (fun e w' => ∃ a2 m2 c2, e = .returned (.agg #[.int .u64 own, .slice a2 m2 c2, .int .u64 ((act own zs).headD next), .int .u64 next]) ∧ Hid (HV w1.heap.size w' (.slice a2 m2 c2) (act own zs) ∧ Below w1.heap.size w1 w'))) := fun w2 h2 => by
            refine (view_any own next w.heap.size (.slice a1 n c1) zs w2 (H1.out.1.hv.kept (fun b _ hb => h2.block b hb) h2.size) (by rw [← HN.out]; omega)).mono ?_
            rintro e w' ⟨v2, rfl, h3, h4, h5⟩
            obtain ⟨a2, c2, rfl, _⟩ := h3.rd
            exact ⟨a2, _, c2, rfl, h3.low h2.size, h2.trans (h5.mono h2.size)⟩
          obtain ⟨L, HL⟩ : ∃ L, Hid ((act own zs).headD next = L) := ⟨_, rfl⟩
          rw [HL.out] at HVW HVE
          have HLA : Hid ((act own zs).length ≤ 10000000) := by
            show _ ≤ _
            unfold act
            rw [sorted_len]
            have := others_len own zs
            rw [← HN.out] at this
            omega
          have G1 : Hid (Below w.heap.size w w1) := H1.out.2
          have HJU : Hid (∀ w2 a2 m2 c2, HV w1.heap.size w2 (.slice a2 m2 c2) (act own zs) → Below w1.heap.size w1 w2 →
              Calls Try.prog 9 #[.agg #[.int .u64 own, .slice a2 m2 c2, .int .u64 L, .int .u64 next], .int .u64 x] (w2.alloc (.cells #[.int .u64 own, .slice a2 m2 c2, .int .u64 L, .int .u64 next] 29)) (fun e w' => e = .returned (.int .i64 V) ∧ Hid (Below w.heap.size w w'))) := fun w2 a2 m2 c2 h1 h2 => by
            have hba : Below w2.heap.size w2 (w2.alloc (.cells #[.int .u64 own, .slice a2 m2 c2, .int .u64 L, .int .u64 next] 29)) := (Below.refl _ _).alloc (Nat.le_refl _) _
            have hr : RdS (fun _ => True) .u64 (w2.alloc (.cells #[.int .u64 own, .slice a2 m2 c2, .int .u64 L, .int .u64 next] 29)) (.slice a2 m2 c2) (act own zs) := (h1.rd.weaken (fun _ _ _ => True.intro)).kept (fun b _ hb => hba.block b hb) hba.size
            have hj := judge_any own L next x (.slice a2 m2 c2) (act own zs) _ hr (up_act own zs) HLA.out
            rw [HVE.out] at hj
            refine hj.mono ?_
            rintro e w' ⟨rfl, hb⟩
            refine ⟨rfl, ?_⟩
            have g2 := G1.out.trans (h2.mono G1.out.size)
            exact (g2.trans (hba.mono g2.size)).trans (hb.mono (Nat.le_trans g2.size hba.size))
          rcases hcase with ⟨e1, e2⟩ | ⟨e1, e2, e3, e4⟩ | ⟨e1, e2, e3, e4⟩ | ⟨e1, e2, e3, e4⟩
          · have b1 : (x == own) = true := by simpa using e1
            have b4 : (x != own) = false := by simp [e1]
            have HOO : Hid True := True.intro
            clear e1
            subst e2
            go_wp2_with fail
            refine (HVW.out w1 (Below.refl _ _)).mono ?_
            rintro e w2 ⟨a2, m2, c2, rfl, F2⟩
            go_wp2_with fail
            refine (HJU.out w2 a2 m2 c2 F2.out.1 F2.out.2).mono ?_
            rintro e w3 ⟨rfl, F3⟩
            go_wp2
            go_ret
            exact ⟨rfl, F3.out⟩
          · have b1 : (x == own) = false := by simpa using e1
            have b4 : (x != own) = true := by simpa using e1
            have b2 : decide (x < next) = true := by simpa using e2
            have b3 : decide (next ≤ x) = false := by simp; omega
            have bo : o = false := by rw [HM.out]; simpa using e3
            clear e1 e2 e3 HM
            subst bo
            rcases e4 with rfl | rfl
            · go_wp2_with fail
              refine (HVW.out w1 (Below.refl _ _)).mono ?_
              rintro e w2 ⟨a2, m2, c2, rfl, F2⟩
              go_wp2_with fail
              refine (HJU.out w2 a2 m2 c2 F2.out.1 F2.out.2).mono ?_
              rintro e w3 ⟨rfl, F3⟩
              go_wp2
              go_ret
              exact ⟨rfl, F3.out⟩
            · go_wp2_with fail
              refine (HVW.out w1 (Below.refl _ _)).mono ?_
              rintro e w2 ⟨a2, m2, c2, rfl, F2⟩
              go_wp2_with fail
              refine (HJU.out w2 a2 m2 c2 F2.out.1 F2.out.2).mono ?_
              rintro e w3 ⟨rfl, F3⟩
              go_wp2
              go_ret
              exact ⟨rfl, F3.out⟩
          · have b1 : (x == own) = false := by simpa using e1
            have b4 : (x != own) = true := by simpa using e1
            have b2 : decide (x < next) = false := by simp; omega
            have b3 : decide (next ≤ x) = true := by simpa using e2
            have bo : o = false := by rw [HM.out]; simpa using e3
            clear e1 e2 e3 HM
            subst bo
            subst e4
            go_wp2_with fail
            refine (HVW.out w1 (Below.refl _ _)).mono ?_
            rintro e w2 ⟨a2, m2, c2, rfl, F2⟩
            go_wp2_with fail
            refine (HJU.out w2 a2 m2 c2 F2.out.1 F2.out.2).mono ?_
            rintro e w3 ⟨rfl, F3⟩
            go_wp2
            go_ret
            exact ⟨rfl, F3.out⟩
          · have b1 : (x == own) = false := by simpa using e1
            have b4 : (x != own) = true := by simpa using e1
            have b2 : decide (x < next) = true := by simpa using e2
            have b3 : decide (next ≤ x) = false := by simp; omega
            have bo : o = true := by rw [HM.out]; simpa using e3
            clear e1 e2 e3 HM
            subst bo
            subst e4
            go_wp2_with fail
            refine (HVW.out w1 (Below.refl _ _)).mono ?_
            rintro e w2 ⟨a2, m2, c2, rfl, F2⟩
            go_wp2_with fail
            refine (HJU.out w2 a2 m2 c2 F2.out.1 F2.out.2).mono ?_
            rintro e w3 ⟨rfl, F3⟩
            go_wp2
            go_ret
            exact ⟨rfl, F3.out⟩

end Go.Proofs.Qxb6605226a.View
