/-
  FnNewReadViewIgnoresOrderAndOwn (5): the walk.
-/
import Derived.Test.Qxb6605226aViewI
import Derived.Test.Qxb6605226aViewD
namespace Go.Proofs.Qxb6605226a.View
open Go.ChangeShapes Go.WideShapes Go.ChangeAt Go.RowKit Mem
set_option linter.unusedVariables false
set_option linter.unusedSimpArgs false

theorem under25 : Try.prog.underlying 25 = some (.slice 27) := by kernel_rfl

/-- What has been gathered in other. -/
def Got (W wr : World) (u : Value) (zs : List Int) (row : Option Nat) : Prop := Own .u64 27 W.heap.size wr u zs row ∧ Below W.heap.size W wr

theorem Got.step {W wr w1 w2 : World} {u v' : Value} {zs zs' : List Int} {row : Option Nat} {g : Nat} (h : Got W wr u zs row) (hW : wr.grownBy w1 none)
    (hown2 : Own .u64 27 W.heap.size w2 v' zs' (some g)) (hgrow2 : w1.grownBy w2 row) : Got W w2 v' zs' (some g) :=
  ⟨hown2, (h.2.grown hW h.2.size (fun k hk => by cases hk)).grown hgrow2 (Nat.le_trans h.2.size hW.size) (fun k hk => (h.1.low k hk).1)⟩

theorem own_hv {B : Nat} {w : World} {v : Value} {zs : List Int} {g : Nat} (h : Own .u64 27 B w v zs (some g)) : HV B w v zs := by
  rcases h with ⟨h, _⟩ | ⟨g', hg, hv, hrow⟩
  · cases h
  · cases hg
    rcases hrow.2 with ⟨rfl, _⟩ | ⟨g2, cap, cur, rfl, hbase, hblk, q1, q2, q3, q4⟩
    · simp [Value.ownBlock] at hv
    · refine .inr ⟨g2, cap, rfl, hbase, (Array.getElem?_eq_some_iff.1 hblk).1, q1, fun j hj => ?_⟩
      have hj' : j < zs.length := by simpa using hj
      rw [Nat.zero_add]
      refine ⟨?_, frozen_of_row w g2 j cur _ hblk⟩
      rw [cell_of_row w g2 j cur _ (0, 0) hblk, toArray_get]
      have q5 : (cur.toList.take (zs.length * 1))[j]? = (zs.map (Value.int .u64))[j]? := by rw [q4]
      rw [List.getElem?_take, if_pos (by omega), List.getElem?_map] at q5
      rw [← Array.getElem?_toList, q5]
      simp [hj']

set_option maxRecDepth 100000 in
set_option maxHeartbeats 4000000 in
theorem law5 (own next : Int) (v : Value) (zs : List Int) (w : World) (hs : RdS (fun _ => True) .u64 w v zs) (hn : zs.length ≤ 9223372036854775807) (hz : ∀ i, 0 ≤ zs.getD i 0 ∧ zs.getD i 0 ≤ 18446744073709551615)
    (hnil : ∀ c, v = .slice none 0 c → c = 0) (ho : 0 ≤ own ∧ own ≤ 18446744073709551615) (hx : 0 ≤ next ∧ next ≤ 18446744073709551615) :
    Calls Try.prog 5 #[.int .u64 own, v, .int .u64 next] w fun e w' => e = .returned (.bool true) ∧ Below w.heap.size w w' := by
  have HS := hide2 hs (hide2 hz hnil)
  obtain ⟨a, c, rfl, hcap, hp⟩ := hs
  obtain ⟨n, HN⟩ : ∃ n, Hid (n = zs.length) := ⟨_, rfl⟩
  rw [← HN.out] at hp hcap hn HS ⊢
  obtain ⟨ho1, ho2⟩ := ho
  obtain ⟨hx1, hx2⟩ := hx
  clear hp hz hnil
  by_cases h20 : n ≤ 1048576
  case neg =>
    have hd : decide (n ≤ 1048576) = false := by simpa using h20
    go_enter Try.func5, Try.ntmps5
    go_wp2_with fail
    refine (bytes15 (.int .u64 own) (.int .u64 next) a n c w hn).mono ?_
    rintro e w1 ⟨rfl, hw1'⟩
    have hw3 := hw1'.symm
    subst hw3
    clear hw1'
    go_wp2
    go_ret
    exact ⟨rfl, Below.refl _ _⟩
  have hd20 : decide (n ≤ 1048576) = true := by simpa using h20
  by_cases h17 : n ≤ 131072
  case neg =>
    go_enter Try.func5, Try.ntmps5
    go_wp2_with fail
    refine (bytes15 (.int .u64 own) (.int .u64 next) a n c w hn).mono ?_
    rintro e w1 ⟨rfl, hw1'⟩
    have hw3 := hw1'.symm
    subst hw3
    clear hw1'
    go_wp2
    go_ret
    exact ⟨rfl, Below.refl _ _⟩
  go_enter Try.func5, Try.ntmps5
  go_wp2_with fail
  refine (bytes15 (.int .u64 own) (.int .u64 next) a n c w hn).mono ?_
  rintro e w1 ⟨rfl, hw1'⟩
  have hw3 := hw1'.symm
  subst hw3
  clear hw1'
  go_wp2_with fail
  have T := copy_any (.slice a n c) zs w HS.out.1 (by rw [← HN.out]; omega) HS.out.2.out.1 HS.out.2.out.2
  refine T.mono ?_
  clear T
  rintro e w1 ⟨v1, rfl, hv1, hb1⟩
  have H1 := hide2 hv1 hb1
  obtain ⟨a1, c1, hv1', hcc, hp1⟩ := hv1.rd
  rw [← HN.out] at hv1' hp1
  subst hv1'
  have HP1 : Hid _ := hp1
  clear hp1 hv1 hb1 hcc
  obtain ⟨i0, h0, h1, h2, h3⟩ : ∃ i0, Try.prog.info? 27 = some i0 ∧ i0.zero = some (.int .u64 0) ∧ i0.size = 1 ∧ i0.bytes = 8 := by
    have := tinfo27
    cases hq : Try.prog.info? 27 with
    | none => rw [hq] at this; cases this
    | some i0 =>
      rw [hq] at this
      simp at this
      exact ⟨i0, rfl, this.1, this.2.1, this.2.2⟩
  have HI0 := hide2 h0 (hide2 h1 (hide2 h2 h3))
  clear h0 h1 h2 h3
  have HMK : Hid (∀ W : World, ∃ w', (Instr.makeSlice 25 (.int .i64 0) (.int .i64 ((n + 2 : Nat) : Int))).run Try.prog W = .ok (.slice (some ⟨W.heap.size, 0, none⟩) 0 (n + 2)) w' ∧ w'.ownsRow W.heap.size 27 1 (.slice (some ⟨W.heap.size, 0, none⟩) 0 (n + 2)) 0 [] ∧ W.grownBy w' none) := fun W =>
    run_make_own W W.heap.size 25 27 i0 (.int .u64 0) 1 under25 HI0.out.1 HI0.out.2.out.1 HI0.out.2.out.2.out.1 .i64 .i64 (n + 2) (by rw [HI0.out.2.out.2.out.2]; omega) (by unfold maxLen; omega) (Nat.le_refl _)
  obtain ⟨w2, hmk, hrow, hgr⟩ := HMK.out w1
  have hmk2 : (Instr.makeSlice 25 (.int .i64 0) (.int .i64 ((n : Int) + 2))).run Try.prog w1 = .ok (.slice (some ⟨w1.heap.size, 0, none⟩) 0 (n + 2)) w2 := by
    have e : ((n + 2 : Nat) : Int) = (n : Int) + 2 := by omega
    rw [e] at hmk; exact hmk
  have HG0 : Hid (Got w1 w2 (.slice (some ⟨w1.heap.size, 0, none⟩) 0 (n + 2)) [] (some w1.heap.size)) := ⟨.inr ⟨w1.heap.size, rfl, rfl, hrow⟩, (Below.refl _ _).grown hgr (Nat.le_refl _) (fun k hk => by cases hk)⟩
  clear hmk hrow hgr HMK HI0
  have hsz : w1.heap.size ≤ w2.heap.size := HG0.out.2.size
  go_wp2_with (at_builtin; refine wpList_append_mine (by rfl) _ _ _ (by rfl) under25 tinfo27 (by decide) w1.heap.size _ (.slice (some ⟨w1.heap.size, 0, none⟩) 0 (n + 2)) [] (some w1.heap.size) (by rfl) (by exact HG0.out.1.alloc hsz _) (by simp; omega) (by simp) _ _ own (by rfl) (by exact Mem.one_cell _ _ _) ?_; intro g cap w3 hown2 hgrow2 hrow2 hlt2; have HG1 : Hid (Got w1 w3 _ _ _) := HG0.out.step (grown_none_alloc _ _) hown2 hgrow2; clear hown2 hgrow2 hrow2)
  clear hmk2 hsz HG0 hlt2
  go_loopw [10, 11] (fun u t wr => ∃ (k : Nat) (row : Option Nat), k ≤ n ∧ t = .int .i64 ((k : Int) - 1) ∧ Hid (Got w1 wr u (own :: (zs.drop k).reverse) row)) (fun _ t _ => (intOf t + 1).toNat)
  case atStart =>
    refine ⟨n, some g, Nat.le_refl _, rfl, ?_⟩
    show Got _ _ _ _ _
    rw [List.drop_of_length_le (by rw [← HN.out]; exact Nat.le_refl _)]
    exact HG1.out
  case round =>
    clear HG1
    obtain ⟨k, row, hk, rfl, HG⟩ := hrel
    by_cases hk0 : 0 < k
    case pos =>
      obtain ⟨b, o, hab, _, hblt, hcs⟩ := HP1.out (by omega)
      have hab' := hab
      subst hab'
      obtain ⟨y, HY⟩ : ∃ y, Hid (zs.getD (k - 1) 0 = y) := ⟨_, rfl⟩
      have hy := (HG.out.2.cell (p := ⟨b, o + (k - 1), none⟩) hblt).trans (hcs (k - 1) (by omega))
      rw [HY.out] at hy
      have hkk : ((k : Int) - 1).toNat = k - 1 := by omega
      have hk1 : (k : Int) - 1 < (n : Int) := by omega
      have hk2 : 0 ≤ (k : Int) - 1 := by omega
      have hlen : (own :: (zs.drop k).reverse).length ≤ 10000000 := by
        simp
        have := HN.out
        omega
      have hsz := HG.out.2.size
      clear hcs
      go_wp2_with (at_builtin; refine wpList_append_mine (by rfl) _ _ _ (by rfl) under25 tinfo27 (by decide) w1.heap.size _ u10 (own :: (zs.drop k).reverse) row (by rfl) (by exact HG.out.1.alloc hsz _) (by simp; omega) hlen _ _ y (by rfl) (by exact Mem.one_cell _ _ _) ?_; intro g2 cap2 w4 hown2 hgrow2 hrow2 hlt2; have HG3 : Hid (Got w1 w4 _ _ _) := HG.out.step (grown_none_alloc _ _) hown2 hgrow2; clear hown2 hgrow2 hrow2)
      have HG4 : Hid (Got w1 w4 (.slice (some ⟨g2, 0, none⟩) ((own :: (zs.drop k).reverse).length + 1) cap2) (own :: (zs.drop (k - 1)).reverse) (some g2)) := by
        show Got _ _ _ _ _
        have := HG3.out
        rw [drop_rev (k := k - 1) (by rw [← HN.out]; omega), show k - 1 + 1 = k from by omega, HY.out]
        exact this
      go_roundw
      case rel => exact ⟨k - 1, some g2, by omega, by congr 1; omega, by have := HG4.out; simp only [List.length_cons, List.length_reverse, List.length_drop] at this; exact this⟩
      case measure => simp [intOf]; omega
    case neg =>
      have HE : Hid (k = 0) := by show k = 0; omega
      have HGe : Hid (Got w1 wr u10 (own :: zs.reverse) row) := by
        have := HG.out
        rw [HE.out, List.drop_zero] at this
        exact this
      have hlen : (own :: zs.reverse).length ≤ 10000000 := by
        simp
        have := HN.out
        omega
      have hsz := HGe.out.2.size
      have hneg : decide ((0 : Int) ≤ (k : Int) - 1) = false := by simp; omega
      clear HG
      go_wp2_with (at_builtin; refine wpList_append_mine (by rfl) _ _ _ (by rfl) under25 tinfo27 (by decide) w1.heap.size _ u10 (own :: zs.reverse) row (by rfl) (by exact HGe.out.1.alloc hsz _) (by simp; omega) hlen _ _ own (by rfl) (by exact Mem.one_cell _ _ _) ?_; intro g2 cap2 w4 hown2 hgrow2 hrow2 hlt2; have HG3 : Hid (Got w1 w4 _ _ _) := HGe.out.step (grown_none_alloc _ _) hown2 hgrow2; clear hown2 hgrow2 hrow2)
      obtain ⟨m2, hm2⟩ : ∃ m2, m2 = zs.length + 1 + 1 := ⟨_, rfl⟩
      have HO4 : Hid (HV w1.heap.size w4 (.slice (some ⟨g2, 0, none⟩) m2 cap2) (around own zs) ∧ Below w1.heap.size w1 w4) := by
        rw [hm2]
        have := own_hv HG3.out.1
        simp only [List.length_cons, List.length_reverse] at this
        exact ⟨this, HG3.out.2⟩
      rw [← hm2]
      clear HG3 HGe hlen hsz hlt2 hm2 hneg
      go_loop [12, 13, 14] (fun tl tq t => ∃ (k q : Nat) (wl : Int), k ≤ n ∧ q ≤ k ∧ t = .int .i64 (k : Int) ∧ tq = .int .i64 (q : Int) ∧ tl = .int .u64 wl ∧ Hid (q = (others own (zs.take k)).length) ∧ Hid (Low next (others own (zs.take k)) wl)) (fun _ _ t => n - (intOf t).toNat)
      case atStart => exact ⟨0, 0, next, by omega, by omega, rfl, rfl, rfl, rfl, low_nil next⟩
      case round =>
        obtain ⟨j, q, wl, hj, hq, rfl, rfl, rfl, HQ, HLw⟩ := hrel
        by_cases hlt : j < n
        case pos =>
          obtain ⟨b, o, hab, _, hblt, hcs⟩ := HP1.out (by omega)
          have hab' := hab
          subst hab'
          obtain ⟨y, HY⟩ : ∃ y, Hid (zs.getD j 0 = y) := ⟨_, rfl⟩
          have hy := (HO4.out.2.cell (p := ⟨b, o + j, none⟩) hblt).trans (hcs j hlt)
          rw [HY.out] at hy
          have hlt' : (j : Int) < (n : Int) := by omega
          have HOS : Hid _ := others_step (own := own) (zs := zs) (k := j) (by rw [← HN.out]; exact hlt)
          have HOT : Hid (others own (zs.take (j + 1)) = if y = own then others own (zs.take j) else others own (zs.take j) ++ [y]) := by
            rw [← HY.out]; exact HOS.out
          clear hcs HOS
          by_cases hyo : y = own
          · have hd : (y == own) = true := by simpa using hyo
            have HQ2 : Hid (q = (others own (zs.take (j + 1))).length) := by show _ = _; rw [HOT.out, if_pos hyo]; exact HQ.out
            have HL2 : Hid (Low next (others own (zs.take (j + 1))) wl) := by show Low _ _ _; rw [HOT.out, if_pos hyo]; exact HLw.out
            clear hyo
            go_wp2
            go_round
            case rel => exact ⟨j + 1, q, wl, by omega, by omega, by go_num, rfl, rfl, HQ2, HL2⟩
            case measure => simp [intOf]; omega
          · have hd : (y == own) = false := by simpa using hyo
            have HQ2 : Hid (q + 1 = (others own (zs.take (j + 1))).length) := by show _ = _; rw [HOT.out, if_neg hyo, List.length_append, ← HQ.out]; rfl
            by_cases hq0 : q = 0
            · have HL2 : Hid (Low next (others own (zs.take (j + 1))) y) := by
                show Low _ _ _
                rw [HOT.out, if_neg hyo]
                exact low_take HLw.out (.inl (List.length_eq_zero_iff.1 (by rw [← HQ.out]; exact hq0)))
              clear hyo
              subst hq0
              go_wp2
              go_round
              case rel => exact ⟨j + 1, 1, y, by omega, by omega, by go_num, by go_num, rfl, HQ2, HL2⟩
              case measure => simp [intOf]; omega
            · have hqb : ((q : Int) == 0) = false := by simp; omega
              by_cases hyl : y < wl
              · have hd2 : decide (y < wl) = true := by simpa using hyl
                have HL2 : Hid (Low next (others own (zs.take (j + 1))) y) := by
                  show Low _ _ _
                  rw [HOT.out, if_neg hyo]
                  exact low_take HLw.out (.inr hyl)
                clear hyo hyl
                go_wp2
                go_round
                case rel => exact ⟨j + 1, q + 1, y, by omega, by omega, by go_num, by go_num, rfl, HQ2, HL2⟩
                case measure => simp [intOf]; omega
              · have hd2 : decide (y < wl) = false := by simpa using hyl
                have HL2 : Hid (Low next (others own (zs.take (j + 1))) wl) := by
                  show Low _ _ _
                  rw [HOT.out, if_neg hyo]
                  exact low_keep HLw.out (fun e => hq0 (by rw [HQ.out, e]; rfl)) hyl
                clear hyo hyl
                go_wp2
                go_round
                case rel => exact ⟨j + 1, q + 1, wl, by omega, by omega, by go_num, by go_num, rfl, HQ2, HL2⟩
                case measure => simp [intOf]; omega
        case neg =>
          have HT : Hid (zs.take j = zs) := List.take_of_length_le (by rw [← HN.out]; omega)
          have HQ2 : Hid (q = (act own zs).length) := by show _ = _; rw [act_len, HQ.out, HT.out]
          have HL2 : Hid (wl = (act own zs).headD next) := by
            have h1 := HLw.out
            rw [HT.out] at h1
            exact h1.unique (low_act own next zs)
          clear HQ HLw HT
          have G1 : Hid (Below w.heap.size w w1) := H1.out.2
          have G4 : Hid (Below w.heap.size w w4) := G1.out.trans (HO4.out.2.mono G1.out.size)
          have HID : Hid (HV w.heap.size w4 (.slice a1 n c1) zs) := H1.out.1.hv.kept (fun b _ hb => HO4.out.2.block b hb) HO4.out.2.size
          have HAR : Hid (act own (around own zs) = act own zs) := act_around own zs
          have HLA : Hid ((act own zs).length ≤ 10000000) := by
            show _ ≤ _
            rw [act_len]
            have := others_len own zs
            rw [← HN.out] at this
            omega
          obtain ⟨A, HA⟩ : ∃ A, Hid (A = act own zs) := ⟨_, rfl⟩
          rw [← HA.out] at HQ2 HL2 HAR HLA
          obtain ⟨bA, HBA⟩ : ∃ bA : Bool, Hid (bA = decide (A = [])) := ⟨_, rfl⟩
          have HVW : Hid (∀ v' zs' B' W2, HV B' W2 v' zs' → zs'.length ≤ 2000000 → act own zs' = A → Calls Try.prog 8 #[.int .u64 own, v', .int .u64 next] W2 (fun e w' => ∃ a2 c2, e = .returned (.agg #[.int .u64 own, .slice a2 q c2, .int .u64 wl, .int .u64 next]) ∧ a2.isNone = bA ∧ Hid (HV W2.heap.size w' (.slice a2 q c2) A ∧ Below W2.heap.size W2 w'))) := fun v' zs' B' W2 g1 g2 g3 => by
            refine (view_any own next B' v' zs' W2 g1 g2).mono ?_
            rintro e w' ⟨v2, rfl, g4, g5, g6⟩
            rw [g3] at g4 g5 ⊢
            rw [HL2.out]
            rcases g4 with ⟨rfl, g7⟩ | ⟨b, C, rfl, g7⟩
            · have hq0 : q = 0 := by rw [HQ2.out, g7]; rfl
              rw [hq0]
              exact ⟨none, 0, rfl, by rw [HBA.out, g7]; rfl, .inl ⟨rfl, g7⟩, g6⟩
            · have hne : A ≠ [] := by
                intro e
                have := g5 e
                cases this
              rw [HQ2.out]
              exact ⟨some ⟨b, 0, none⟩, C, rfl, by rw [HBA.out]; simp [hne], .inr ⟨b, C, rfl, g7⟩, g6⟩
          go_wp2_with fail
          refine (HVW.out (.slice a1 n c1) zs w.heap.size w4 HID.out (by rw [← HN.out]; omega) HA.out.symm).mono ?_
          rintro e w5 ⟨a2, c2, rfl, hn2, F5⟩
          have G5 : Hid (Below w.heap.size w w5) := G4.out.trans (F5.out.2.mono G4.out.size)
          go_wp2_with fail
          obtain ⟨w6, hw6⟩ : ∃ w6, w6 = w5.alloc (.cells #[.int .u64 own, .slice a2 q c2, .int .u64 wl, .int .u64 next] 29) := ⟨_, rfl⟩
          have B6 : Hid (Below w5.heap.size w5 w6 ∧ w6.heap[w5.heap.size]? = some (.cells #[.int .u64 own, .slice a2 q c2, .int .u64 wl, .int .u64 next] 29 (0, 0)) ∧ w5.heap.size < w6.heap.size) := by
            rw [hw6]
            exact ⟨(Below.refl _ _).alloc (Nat.le_refl _) _, heap_alloc_new w5 _, by simp⟩
          rw [← hw6]
          clear hw6
          have G6 : Hid (Below w.heap.size w w6) := G5.out.trans (B6.out.1.mono G5.out.size)
          have HOT6 : Hid (HV w1.heap.size w6 (.slice (some ⟨g2, 0, none⟩) m2 cap2) (around own zs)) := HO4.out.1.kept (fun b _ hb => (B6.out.1.block b (Nat.lt_of_lt_of_le hb F5.out.2.size)).trans (F5.out.2.block b hb)) (Nat.le_trans F5.out.2.size B6.out.1.size)
          refine (HVW.out (.slice (some ⟨g2, 0, none⟩) m2 cap2) (around own zs) w1.heap.size w6 HOT6.out (by unfold around; simp; rw [← HN.out]; omega) HAR.out).mono ?_
          rintro e w7 ⟨a3, c3, rfl, hn3, F7⟩
          have G7 : Hid (Below w.heap.size w w7) := G6.out.trans (F7.out.2.mono G6.out.size)
          obtain ⟨w8, hw8⟩ : ∃ w8, w8 = w7.alloc (.cells #[.int .u64 own, .slice a3 q c3, .int .u64 wl, .int .u64 next] 29) := ⟨_, rfl⟩
          have B8 : Hid (Below w7.heap.size w7 w8 ∧ w8.heap[w7.heap.size]? = some (.cells #[.int .u64 own, .slice a3 q c3, .int .u64 wl, .int .u64 next] 29 (0, 0)) ∧ w7.heap.size < w8.heap.size) := by
            rw [hw8]
            exact ⟨(Below.refl _ _).alloc (Nat.le_refl _) _, heap_alloc_new w7 _, by simp⟩
          have G8 : Hid (Below w.heap.size w w8) := G7.out.trans (B8.out.1.mono G7.out.size)
          have H85 : Hid (w8.heap[w5.heap.size]? = some (.cells #[.int .u64 own, .slice a2 q c2, .int .u64 wl, .int .u64 next] 29 (0, 0))) :=
            (B8.out.1.block _ (Nat.lt_of_lt_of_le B6.out.2.2 F7.out.2.size)).trans ((F7.out.2.block _ B6.out.2.2).trans B6.out.2.1)
          have k0 : w8.cell? ⟨w5.heap.size, 0, none⟩ = some (.int .u64 own) := by rw [cell_of_row w8 _ 0 _ 29 (0, 0) H85.out]; rfl
          have k1 : w8.cell? ⟨w5.heap.size, 1, none⟩ = some (.slice a2 q c2) := by rw [cell_of_row w8 _ 1 _ 29 (0, 0) H85.out]; rfl
          have k2 : w8.cell? ⟨w5.heap.size, 2, none⟩ = some (.int .u64 wl) := by rw [cell_of_row w8 _ 2 _ 29 (0, 0) H85.out]; rfl
          have k3 : w8.cell? ⟨w5.heap.size, 3, none⟩ = some (.int .u64 next) := by rw [cell_of_row w8 _ 3 _ 29 (0, 0) H85.out]; rfl
          rw [hw8] at k0 k1 k2 k3
          go_wp2_with fail
          rw [← hw8]
          clear k0 k1 k2 k3
          clear hw8
          refine (fields_any (.int .u64 own) (.slice a2 q c2) (.int .u64 wl) (.int .u64 next) w8).mono ?_
          rintro e w9 ⟨rfl, hb9⟩
          have B9 : Hid (Below w8.heap.size w8 w9) := hb9
          have G9 : Hid (Below w.heap.size w w9) := G8.out.trans (hb9.mono G8.out.size)
          have H97 : Hid (w9.heap[w7.heap.size]? = some (.cells #[.int .u64 own, .slice a3 q c3, .int .u64 wl, .int .u64 next] 29 (0, 0))) := (hb9.block _ B8.out.2.2).trans B8.out.2.1
          clear hb9
          have k0 : w9.cell? ⟨w7.heap.size, 0, none⟩ = some (.int .u64 own) := by rw [cell_of_row w9 _ 0 _ 29 (0, 0) H97.out]; rfl
          have k1 : w9.cell? ⟨w7.heap.size, 1, none⟩ = some (.slice a3 q c3) := by rw [cell_of_row w9 _ 1 _ 29 (0, 0) H97.out]; rfl
          have k2 : w9.cell? ⟨w7.heap.size, 2, none⟩ = some (.int .u64 wl) := by rw [cell_of_row w9 _ 2 _ 29 (0, 0) H97.out]; rfl
          have k3 : w9.cell? ⟨w7.heap.size, 3, none⟩ = some (.int .u64 next) := by rw [cell_of_row w9 _ 3 _ 29 (0, 0) H97.out]; rfl
          go_wp2_with fail
          clear k0 k1 k2 k3
          refine (fields_any (.int .u64 own) (.slice a3 q c3) (.int .u64 wl) (.int .u64 next) w9).mono ?_
          rintro e w10 ⟨rfl, hb10⟩
          have G10 : Hid (Below w.heap.size w w10) := G9.out.trans (hb10.mono G9.out.size)
          have HR2 : Hid (RdS (fun _ => True) .u64 w10 (.slice a2 q c2) A) := by
            have e1 : Below w5.heap.size w5 w10 := (((B6.out.1.trans (F7.out.2.mono B6.out.1.size)).trans (B8.out.1.mono (Nat.le_trans B6.out.1.size F7.out.2.size))).trans (B9.out.mono (Nat.le_trans B6.out.1.size (Nat.le_trans F7.out.2.size B8.out.1.size)))).trans (hb10.mono (Nat.le_trans B6.out.1.size (Nat.le_trans F7.out.2.size (Nat.le_trans B8.out.1.size B9.out.size))))
            exact (F5.out.1.rd.weaken (fun _ _ _ => True.intro)).kept (fun b _ hb => e1.block b hb) e1.size
          have HR3 : Hid (RdS (fun _ => True) .u64 w10 (.slice a3 q c3) A) := by
            have e1 : Below w7.heap.size w7 w10 := (B8.out.1.trans (B9.out.mono B8.out.1.size)).trans (hb10.mono (Nat.le_trans B8.out.1.size B9.out.size))
            exact (F7.out.1.rd.weaken (fun _ _ _ => True.intro)).kept (fun b _ hb => e1.block b hb) e1.size
          clear hb10
          have hnil2 := fun w => Lib.run_eql_slice_nil (P := Try.prog) w 25 27 a2 q c2 0 0 under25
          have hnil3 := fun w => Lib.run_eql_slice_nil (P := Try.prog) w 25 27 a3 q c3 0 0 under25
          rw [hn2] at hnil2
          rw [hn3] at hnil3
          have hself1 : (own != own) = false := by simp
          have hself2 : (wl != wl) = false := by simp
          have hself3 : (next != next) = false := by simp
          have hself4 : (bA != bA) = false := by simp
          have hq' : q ≤ 131072 := by omega
          go_wp2_with fail
          have T := same_any (.slice a2 q c2) (.slice a3 q c3) A A w10 HR2.out HR3.out HLA.out HLA.out
          rw [show decide (A = A) = true by simp] at T
          refine T.mono ?_
          clear T
          rintro e w11 ⟨rfl, d, hw11⟩
          have G11 : Hid (Below w.heap.size w w11) := by rw [hw11]; exact below_drewN G10.out d
          clear hw11
          have hs1 : (own == own) = true := by simp
          have hs2 : (wl == wl) = true := by simp
          have hs3 : (next == next) = true := by simp
          go_wp2
          go_ret
          exact ⟨by simp, G11.out⟩

end Go.Proofs.Qxb6605226a.View
