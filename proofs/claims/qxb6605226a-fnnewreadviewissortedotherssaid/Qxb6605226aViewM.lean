/-
  zzMergeSortTrx (11): the walk.
-/
import Derived.Test.Qxb6605226aViewL
import Derived.Test.Qxb6605226aViewK
import Derived.Deep.DeepCutAuto
namespace Go.Proofs.Qxb6605226a.View
open Go.ChangeShapes Go.WideShapes Go.ChangeAt Go.RowKit Mem
set_option linter.unusedVariables false
set_option linter.unusedSimpArgs false

/-- A row of TrxIDs in block b: its first n are X. -/
def RowX (w : World) (b C n : Nat) (X : Nat → Int) : Prop := ∃ f, w.rowIs b 27 C f ∧ n ≤ C ∧ ∀ q, q < n → f q = .int .u64 (X q)

theorem RowX.cell {w : World} {b C n : Nat} {X : Nat → Int} (h : RowX w b C n X) {q : Nat} (hq : q < n) : w.cell? ⟨b, q, none⟩ = some (.int .u64 (X q)) := by
  obtain ⟨f, h1, h2, h3⟩ := h
  rw [← h3 q hq]; exact h1.cell (by omega)
theorem RowX.frozen {w : World} {b C n : Nat} {X : Nat → Int} (h : RowX w b C n X) (q : Nat) : w.frozen? ⟨b, q, none⟩ = false := by
  obtain ⟨f, h1, h2, h3⟩ := h
  exact h1.frozen q
theorem RowX.set {w : World} {b C n : Nat} {X : Nat → Int} (h : RowX w b C n X) (k : Nat) (v : Int) : RowX (w.setCell ⟨b, k, none⟩ (.int .u64 v)) b C n (upd X k v) := by
  obtain ⟨f, h1, h2, h3⟩ := h
  refine ⟨_, h1.set k _, h2, fun q hq => ?_⟩
  unfold upd
  by_cases e : q = k
  · rw [if_pos e, if_pos e]
  · rw [if_neg e, if_neg e]; exact h3 q hq
theorem RowX.other {w : World} {b b' C n k : Nat} {X : Nat → Int} (h : RowX w b C n X) (hb : b ≠ b') (v : Value) : RowX (w.setCell ⟨b', k, none⟩ v) b C n X := by
  obtain ⟨f, h1, h2, h3⟩ := h
  exact ⟨f, h1.setOther hb v, h2, h3⟩

/-- The two rows of the sort. -/
def MS (B : Nat) (W wr : World) (pa Ca pb Cb n : Nat) (X Y : Nat → Int) : Prop := RowX wr pa Ca n X ∧ RowX wr pb Cb n Y ∧ Below B W wr

theorem MS.put {B : Nat} {W wr : World} {pa Ca pb Cb n : Nat} {X Y : Nat → Int} (h : MS B W wr pa Ca pb Cb n X Y) (hne : pa ≠ pb) (hB : B ≤ pb) (k : Nat) (v : Int) : MS B W (wr.setCell ⟨pb, k, none⟩ (.int .u64 v)) pa Ca pb Cb n X (upd Y k v) :=
  ⟨h.1.other hne _, h.2.1.set k v, h.2.2.setCell hB _⟩

theorem MS.drew {B : Nat} {W wr : World} {pa Ca pb Cb n : Nat} {X Y : Nat → Int} (h : MS B W wr pa Ca pb Cb n X Y) (d : Nat) : MS B W (wr.drewN d) pa Ca pb Cb n X Y := ⟨h.1, h.2.1, below_drewN h.2.2 d⟩

def MergePost (B n : Nat) (X : Nat → Int) (w : World) (e : Ending) (w' : World) : Prop :=
  ∃ b C Z, e = .returned (.slice (some ⟨b, 0, none⟩) n C) ∧ RowX w' b C n Z ∧ seg Z 0 n = sorted (seg X 0 n) ∧ B ≤ b ∧ Below B w w'

set_option maxRecDepth 100000 in
set_option maxHeartbeats 4000000 in
theorem merge_any (B pa Ca n : Nat) (X : Nat → Int) (w : World) (hr : RowX w pa Ca n X) (hB : B ≤ pa) (hBs : B ≤ w.heap.size) (hn : n ≤ 200000) :
    Calls Try.prog 11 #[.slice (some ⟨pa, 0, none⟩) n Ca] w (MergePost B n X w) := by
  have hlt : pa < w.heap.size := by
    obtain ⟨f, h1, _⟩ := hr
    exact h1.lt
  have hmk := run_make_row' (P := Try.prog) 25 27 (.int .u64 0) 8 Try.underlying25 tinfo27 rfl .i64 .i64 n (by omega) (by omega)
  obtain ⟨W0, hW0⟩ : ∃ W0, W0 = w.alloc (.cells (madeCells #[.int .u64 0] n) 27) := ⟨_, rfl⟩
  have HM0 : Hid (MS B w W0 pa Ca w.heap.size n n X (fun _ => 0)) := by
    rw [hW0]
    refine ⟨?_, ⟨_, World.rowIs_made w _ n 27, Nat.le_refl _, fun q _ => rfl⟩, (Below.refl _ _).alloc hBs _⟩
    obtain ⟨f, h1, h2, h3⟩ := hr
    exact ⟨f, h1.alloc _, h2, h3⟩
  obtain ⟨zs, HZ⟩ : ∃ zs, Hid (zs = seg X 0 n) := ⟨_, rfl⟩
  have HPM : Hid (∀ b C Z w', RowX w' b C n Z → seg Z 0 n = sorted zs → B ≤ b → Below B w w' → MergePost B n X w (.returned (.slice (some ⟨b, 0, none⟩) n C)) w') := fun b C Z w' h1 h2 h3 h4 => ⟨b, C, Z, rfl, h1, by rw [h2, HZ.out], h3, h4⟩
  have HP0 : Hid ((seg X 0 n).Perm zs) := by rw [HZ.out]; exact List.Perm.refl _
  have HB0 : Hid (pa ≠ w.heap.size ∧ B ≤ pa ∧ B ≤ w.heap.size) := ⟨by omega, hB, hBs⟩
  clear hr hB hBs hlt
  go_enter Try.func11, Try.ntmps11
  go_wp2_with fail
  rw [← hW0]
  clear hW0 hmk
  go_loopw [0, 4, 5, 6, 7, 8, 9, 10, 11] (fun ta tb tw _ _ _ _ _ _ wr => ∃ (p Cp q Cq wd : Nat) (X' Y : Nat → Int), ta = .slice (some ⟨p, 0, none⟩) n Cp ∧ tb = .slice (some ⟨q, 0, none⟩) n Cq ∧ tw = .int .i64 (wd : Int) ∧ 1 ≤ wd ∧ wd ≤ 400000 ∧ Hid (p ≠ q ∧ B ≤ p ∧ B ≤ q) ∧ Hid (MS B w wr p Cp q Cq n X' Y) ∧ Hid (CS wd n X' ∧ (seg X' 0 n).Perm zs)) (fun _ _ tw _ _ _ _ _ _ _ => n - (intOf tw).toNat)
  case atStart => exact ⟨pa, Ca, w.heap.size, n, 1, X, _, rfl, rfl, rfl, by omega, by omega, HB0, HM0, cs_one n X, HP0.out⟩
  case round =>
    clear HM0 HP0 HB0
    obtain ⟨p, Cp, q, Cq, wd, X1, Y1, rfl, rfl, rfl, hw1, hw2, HB, HM, HC⟩ := hrel
    by_cases hwn : wd < n
    case neg =>
      have HF := HPM.out p Cp X1 wr HM.out.1 (sorted_seg (cs_end HC.out.1 (by omega)) HC.out.2) HB.out.2.1 HM.out.2.2
      have HF2 : Hid _ := HF
      clear HF
      go_wp2
      go_ret
      exact HF2.out
    case pos =>
      have hwn' : (wd : Int) < (n : Int) := by omega
      go_wp2_with fail
      go_loopw [6, 7, 8, 9, 10, 11] (fun tl _ _ _ _ _ wr => ∃ (T lo : Nat) (Y : Nat → Int), tl = .int .i64 (lo : Int) ∧ lo ≤ 1000000 ∧ Hid (lo = T * (2 * wd)) ∧ Hid (MS B w wr p Cp q Cq n X1 Y) ∧ Hid (Done T wd n X1 Y)) (fun tl _ _ _ _ _ _ => n - (intOf tl).toNat)
      case atStart => exact ⟨0, 0, Y1, rfl, by omega, by show _ = _; simp, HM, done_zero _ _ _ _⟩
      case round =>
        clear HM
        obtain ⟨T, lo, Y2, rfl, hlo, HT, HM, HD⟩ := hrel
        by_cases hln : lo < n
        case neg =>
          have HD2 : Hid (CS (2 * wd) n Y2 ∧ (seg Y2 0 n).Perm zs) := by
            obtain ⟨h1, h2⟩ := done_end HD.out (by rw [← HT.out]; omega)
            exact ⟨h1, h2.trans HC.out.2⟩
          have HM2 : Hid (MS B w wr q Cq p Cp n Y2 X1) := ⟨HM.out.2.1, HM.out.1, HM.out.2.2⟩
          have HB2 : Hid (q ≠ p ∧ B ≤ q ∧ B ≤ p) := ⟨HB.out.1.symm, HB.out.2.2, HB.out.2.1⟩
          go_wp2
          go_roundw
          case rel => exact ⟨q, Cq, p, Cp, 2 * wd, Y2, X1, rfl, rfl, by go_num, by omega, by omega, HB2, HM2, HD2⟩
          case measure => simp [intOf]; omega
        case pos =>
          have hln' : (lo : Int) < (n : Int) := by omega
          obtain ⟨mid, hmid⟩ : ∃ mid, mid = min (lo + wd) n := ⟨_, rfl⟩
          obtain ⟨hi, hhi⟩ : ∃ hi, hi = min (lo + 2 * wd) n := ⟨_, rfl⟩
          have HMH := hide2 hmid hhi
          have hm1 : lo ≤ mid := by omega
          have hm2 : mid ≤ hi := by omega
          have hm3 : hi ≤ n := by omega
          clear hmid hhi
          go_upto_if 33 with fail
          go_cut [7] (fun t wc => t = .int .i64 (mid : Int) ∧ wc = wr)
          case first =>
            have hm := HMH.out.1
            by_cases h0 : n < lo + wd
            · have hd : (n : Int) < (lo : Int) + (wd : Int) := by omega
              have hmn : Hid (n = mid) := by show n = mid; omega
              clear hm h0
              go_wp2
              go_meet
              case rel => exact ⟨by rw [← hmn.out], rfl⟩
            · have hd : ¬ (n : Int) < (lo : Int) + (wd : Int) := by omega
              have hmn : Hid ((lo : Int) + (wd : Int) = (mid : Int)) := by show _ = _; omega
              clear hm h0
              go_wp2
              go_meet
              case rel => exact ⟨by rw [hmn.out], rfl⟩
          case rest =>
            obtain ⟨hc1, hc2⟩ := hcut
            subst hc1
            have hc3 := hc2.symm
            subst hc3
            clear hc2
            go_upto_if 41 with fail
            go_cut [8] (fun t wc => t = .int .i64 (hi : Int) ∧ wc = wr)
            case first =>
              have hm := HMH.out.2
              by_cases h0 : n < lo + 2 * wd
              · have hd : (n : Int) < (lo : Int) + 2 * (wd : Int) := by omega
                have hmn : Hid (n = hi) := by show n = hi; omega
                clear hm h0
                go_wp2
                go_meet
                case rel => exact ⟨by rw [← hmn.out], rfl⟩
              · have hd : ¬ (n : Int) < (lo : Int) + 2 * (wd : Int) := by omega
                have hmn : Hid ((lo : Int) + 2 * (wd : Int) = (hi : Int)) := by show _ = _; omega
                clear hm h0
                go_wp2
                go_meet
                case rel => exact ⟨by rw [hmn.out], rfl⟩
            case rest =>
              obtain ⟨hc1, hc2⟩ := hcut
              subst hc1
              have hc3 := hc2.symm
              subst hc3
              clear hc2
              obtain ⟨M, HMM⟩ : ∃ M, Hid (M = (seg X1 lo mid).merge (seg X1 mid hi) leB) := ⟨_, rfl⟩
              have HMI0 : Hid (MI X1 Y2 lo mid hi lo mid lo M) := by
                show MI _ _ _ _ _ _ _ _ _
                unfold MI
                rw [seg_nil (Nat.le_refl _), HMM.out]
                rfl
              go_wp2_with fail
              go_loopw [9, 10, 11] (fun ti tj tk wr => ∃ (i j k : Nat) (Y : Nat → Int), ti = .int .i64 (i : Int) ∧ tj = .int .i64 (j : Int) ∧ tk = .int .i64 (k : Int) ∧ lo ≤ i ∧ i ≤ mid ∧ mid ≤ j ∧ j ≤ hi ∧ k + mid = i + j ∧ Hid (MS B w wr p Cp q Cq n X1 Y) ∧ Hid (∀ r, r < lo → Y r = Y2 r) ∧ Hid (MI X1 Y lo mid hi i j k M)) (fun ti tj _ _ => (mid - (intOf ti).toNat) + (hi - (intOf tj).toNat))
              case atStart => exact ⟨lo, mid, lo, Y2, rfl, rfl, rfl, by omega, by omega, by omega, by omega, by omega, HM, fun r _ => rfl, HMI0⟩
              case round =>
                clear HM HMI0
                obtain ⟨i, j, k, Y3, rfl, rfl, rfl, h31, h32, h33, h34, hk, HM3, HY3, HMI⟩ := hrel
                by_cases hb : i < mid ∧ j < hi
                case pos =>
                  have hb1 : (i : Int) < (mid : Int) := by omega
                  have hb2 : (j : Int) < (hi : Int) := by omega
                  have hin : (i : Int) < (n : Int) := by omega
                  have hjn : (j : Int) < (n : Int) := by omega
                  have hkn : (k : Int) < (n : Int) := by omega
                  have hkm : k < n := by omega
                  obtain ⟨xi, HXI⟩ : ∃ y, Hid (X1 i = y) := ⟨_, rfl⟩
                  obtain ⟨xj, HXJ⟩ : ∃ y, Hid (X1 j = y) := ⟨_, rfl⟩
                  have e1 := HM3.out.1.cell (q := i) (by omega)
                  have e2 := HM3.out.1.cell (q := j) (by omega)
                  rw [HXI.out] at e1
                  rw [HXJ.out] at e2
                  have e3 := HM3.out.2.1.cell hkm
                  have e4 := HM3.out.2.1.frozen k
                  generalize Y3 k = yk at e3
                  by_cases hlt : xj < xi
                  · have hd : decide (xj < xi) = true := by simpa using hlt
                    have HM5 : Hid (∀ d, MS B w ((wr.drewN d).setCell ⟨q, k, none⟩ (.int .u64 xj)) p Cp q Cq n X1 (upd Y3 k xj)) := fun d => (HM3.out.drew d).put HB.out.1 HB.out.2.2 k xj
                    have HMI5 : Hid (MI X1 (upd Y3 k xj) lo mid hi (i) (j + 1) (k + 1) M) := by
                      have := HMI.out.right (by omega) hb.1 hb.2 (by rw [HXJ.out, HXI.out]; exact hlt)
                      rw [HXJ.out] at this
                      exact this
                    have HY5 : Hid (∀ r, r < lo → upd Y3 k xj r = Y2 r) := fun r hr => by unfold upd; rw [if_neg (by omega)]; exact HY3.out r hr
                    clear hlt
                    go_wp2_with fail
                    go_quiet (fail)
                    go_wp2
                    go_roundw
                    case rel => exact ⟨i, j + 1, k + 1, _, by go_num, by go_num, by go_num, by omega, by omega, by omega, by omega, by omega, HM5.out _, HY5, HMI5⟩
                    case measure => simp [intOf]; omega
                  · have hd : decide (xj < xi) = false := by simpa using hlt
                    have HM5 : Hid (∀ d, MS B w ((wr.drewN d).setCell ⟨q, k, none⟩ (.int .u64 xi)) p Cp q Cq n X1 (upd Y3 k xi)) := fun d => (HM3.out.drew d).put HB.out.1 HB.out.2.2 k xi
                    have HMI5 : Hid (MI X1 (upd Y3 k xi) lo mid hi (i + 1) (j) (k + 1) M) := by
                      have := HMI.out.left (by omega) hb.1 hb.2 (by rw [HXJ.out, HXI.out]; exact hlt)
                      rw [HXI.out] at this
                      exact this
                    have HY5 : Hid (∀ r, r < lo → upd Y3 k xi r = Y2 r) := fun r hr => by unfold upd; rw [if_neg (by omega)]; exact HY3.out r hr
                    clear hlt
                    go_wp2_with fail
                    go_quiet (fail)
                    go_wp2
                    go_roundw
                    case rel => exact ⟨i + 1, j, k + 1, _, by go_num, by go_num, by go_num, by omega, by omega, by omega, by omega, by omega, HM5.out _, HY5, HMI5⟩
                    case measure => simp [intOf]; omega
                case neg =>
                  by_cases hi1 : i < mid
                  · have hi1' : (i : Int) < (mid : Int) := by omega
                    have hj1' : ¬ (j : Int) < (hi : Int) := by omega
                    have HEX : Hid (i < mid → hi ≤ j) := fun _ => by omega
                    clear hb
                    go_wp2_with fail
                    go_loopw [9, 11] (fun ti tk wr => ∃ (i k : Nat) (Y : Nat → Int), ti = .int .i64 (i : Int) ∧ tk = .int .i64 (k : Int) ∧ lo ≤ i ∧ i ≤ mid ∧ k + mid = i + j ∧ Hid (i < mid → hi ≤ j) ∧ Hid (MS B w wr p Cp q Cq n X1 Y) ∧ Hid (∀ r, r < lo → Y r = Y2 r) ∧ Hid (MI X1 Y lo mid hi i j k M)) (fun ti _ _ => mid - (intOf ti).toNat)
                    case atStart => exact ⟨i, k, Y3, rfl, rfl, by omega, by omega, hk, HEX, HM3, HY3, HMI⟩
                    case round =>
                      clear HM3 HY3 HMI HEX
                      obtain ⟨i4, k4, Y4, rfl, rfl, h41, h42, hk4, HEX4, HM4, HY4, HMI4⟩ := hrel
                      by_cases hi4 : i4 < mid
                      case pos =>
                        have hi4' : (i4 : Int) < (mid : Int) := by omega
                        have hi4n : (i4 : Int) < (n : Int) := by omega
                        have hk4n : (k4 : Int) < (n : Int) := by have := HEX4.out hi4; omega
                        have hk4m : k4 < n := by omega
                        obtain ⟨y, HY⟩ : ∃ y, Hid (X1 i4 = y) := ⟨_, rfl⟩
                        have e1 := HM4.out.1.cell (q := i4) (by omega)
                        rw [HY.out] at e1
                        have e2 := HM4.out.2.1.cell hk4m
                        have e3 := HM4.out.2.1.frozen k4
                        generalize Y4 k4 = yk at e2
                        have HM5 : Hid (MS B w (wr.setCell ⟨q, k4, none⟩ (.int .u64 y)) p Cp q Cq n X1 (upd Y4 k4 y)) := HM4.out.put HB.out.1 HB.out.2.2 k4 y
                        have HMI5 : Hid (MI X1 (upd Y4 k4 y) lo mid hi (i4 + 1) j (k4 + 1) M) := by
                          have := HMI4.out.restLeft (by omega) hi4 (HEX4.out hi4)
                          rw [HY.out] at this
                          exact this
                        have HY5 : Hid (∀ r, r < lo → upd Y4 k4 y r = Y2 r) := fun r hr => by unfold upd; rw [if_neg (by omega)]; exact HY4.out r hr
                        have HEX5 : Hid (i4 + 1 < mid → hi ≤ j) := fun _ => HEX4.out hi4
                        go_wp2
                        go_roundw
                        case rel => exact ⟨i4 + 1, k4 + 1, _, by go_num, by go_num, by omega, by omega, by omega, HEX5, HM5, HY5, HMI5⟩
                        case measure => simp [intOf]; omega
                      case neg =>
                        have him : mid ≤ i4 := by omega
                        go_wp2_with fail
                        go_loopw [10, 11] (fun tj tk wr => ∃ (j5 k5 : Nat) (Y : Nat → Int), tj = .int .i64 (j5 : Int) ∧ tk = .int .i64 (k5 : Int) ∧ mid ≤ j5 ∧ j5 ≤ hi ∧ k5 = j5 ∧ Hid (MS B w wr p Cp q Cq n X1 Y) ∧ Hid (∀ r, r < lo → Y r = Y2 r) ∧ Hid (MI X1 Y lo mid hi i4 j5 k5 M)) (fun tj _ _ => hi - (intOf tj).toNat)
                        case atStart => exact ⟨j, k4, Y4, rfl, rfl, by omega, by omega, by omega, HM4, HY4, HMI4⟩
                        case round =>
                          clear HM4 HY4 HMI4 HEX4
                          obtain ⟨j5, k5, Y5, rfl, rfl, h51, h52, hk5, HM5, HY5, HMI5⟩ := hrel
                          by_cases hj5 : j5 < hi
                          case pos =>
                            have hj5' : (j5 : Int) < (hi : Int) := by omega
                            have hj5n : (j5 : Int) < (n : Int) := by omega
                            have hk5n : (k5 : Int) < (n : Int) := by omega
                            have hk5m : k5 < n := by omega
                            have HK5 : Hid (k5 = j5) := hk5
                            clear hk5
                            obtain ⟨y, HY⟩ : ∃ y, Hid (X1 j5 = y) := ⟨_, rfl⟩
                            have e1 := HM5.out.1.cell (q := j5) (by omega)
                            rw [HY.out] at e1
                            have e2 := HM5.out.2.1.cell hk5m
                            have e3 := HM5.out.2.1.frozen k5
                            generalize Y5 k5 = yk at e2
                            have HM6 : Hid (MS B w (wr.setCell ⟨q, k5, none⟩ (.int .u64 y)) p Cp q Cq n X1 (upd Y5 k5 y)) := HM5.out.put HB.out.1 HB.out.2.2 k5 y
                            have HMI6 : Hid (MI X1 (upd Y5 k5 y) lo mid hi i4 (j5 + 1) (k5 + 1) M) := by
                              have := HMI5.out.restRight (by have := HK5.out; omega) him hj5
                              rw [HY.out] at this
                              exact this
                            have HY6 : Hid (∀ r, r < lo → upd Y5 k5 y r = Y2 r) := fun r hr => by unfold upd; rw [if_neg (by have := HK5.out; omega)]; exact HY5.out r hr
                            go_wp2
                            go_roundw
                            case rel => exact ⟨j5 + 1, k5 + 1, _, by go_num, by go_num, by omega, by omega, by have := HK5.out; omega, HM6, HY6, HMI6⟩
                            case measure => simp [intOf]; omega
                          case neg =>
                            have hke : k5 = hi := by omega
                            have HS5 : Hid (seg Y5 lo hi = M) := by
                              have := HMI5.out.done him (by omega)
                              rw [hke] at this
                              exact this
                            have HD5 : Hid (Done (T + 1) wd n X1 Y5) := done_step HD.out HC.out.1 HT.out hln HMH.out.1 HMH.out.2 HY5.out (by rw [HS5.out, HMM.out])
                            have HT5 : Hid (lo + 2 * wd = (T + 1) * (2 * wd)) := by show _ = _; rw [Nat.add_mul, Nat.one_mul, ← HT.out]
                            clear hk5 hke
                            go_wp2
                            go_roundw
                            case rel => exact ⟨T + 1, lo + 2 * wd, Y5, by go_num, by omega, HT5, HM5, HD5⟩
                            case measure => simp [intOf]; omega
                  · have hi1' : ¬ (i : Int) < (mid : Int) := by omega
                    have HEX : Hid (i < mid → hi ≤ j) := fun h => absurd h hi1
                    clear hb
                    go_wp2_with fail
                    go_loopw [9, 11] (fun ti tk wr => ∃ (i k : Nat) (Y : Nat → Int), ti = .int .i64 (i : Int) ∧ tk = .int .i64 (k : Int) ∧ lo ≤ i ∧ i ≤ mid ∧ k + mid = i + j ∧ Hid (i < mid → hi ≤ j) ∧ Hid (MS B w wr p Cp q Cq n X1 Y) ∧ Hid (∀ r, r < lo → Y r = Y2 r) ∧ Hid (MI X1 Y lo mid hi i j k M)) (fun ti _ _ => mid - (intOf ti).toNat)
                    case atStart => exact ⟨i, k, Y3, rfl, rfl, by omega, by omega, hk, HEX, HM3, HY3, HMI⟩
                    case round =>
                      clear HM3 HY3 HMI HEX
                      obtain ⟨i4, k4, Y4, rfl, rfl, h41, h42, hk4, HEX4, HM4, HY4, HMI4⟩ := hrel
                      by_cases hi4 : i4 < mid
                      case pos =>
                        have hi4' : (i4 : Int) < (mid : Int) := by omega
                        have hi4n : (i4 : Int) < (n : Int) := by omega
                        have hk4n : (k4 : Int) < (n : Int) := by have := HEX4.out hi4; omega
                        have hk4m : k4 < n := by omega
                        obtain ⟨y, HY⟩ : ∃ y, Hid (X1 i4 = y) := ⟨_, rfl⟩
                        have e1 := HM4.out.1.cell (q := i4) (by omega)
                        rw [HY.out] at e1
                        have e2 := HM4.out.2.1.cell hk4m
                        have e3 := HM4.out.2.1.frozen k4
                        generalize Y4 k4 = yk at e2
                        have HM5 : Hid (MS B w (wr.setCell ⟨q, k4, none⟩ (.int .u64 y)) p Cp q Cq n X1 (upd Y4 k4 y)) := HM4.out.put HB.out.1 HB.out.2.2 k4 y
                        have HMI5 : Hid (MI X1 (upd Y4 k4 y) lo mid hi (i4 + 1) j (k4 + 1) M) := by
                          have := HMI4.out.restLeft (by omega) hi4 (HEX4.out hi4)
                          rw [HY.out] at this
                          exact this
                        have HY5 : Hid (∀ r, r < lo → upd Y4 k4 y r = Y2 r) := fun r hr => by unfold upd; rw [if_neg (by omega)]; exact HY4.out r hr
                        have HEX5 : Hid (i4 + 1 < mid → hi ≤ j) := fun _ => HEX4.out hi4
                        go_wp2
                        go_roundw
                        case rel => exact ⟨i4 + 1, k4 + 1, _, by go_num, by go_num, by omega, by omega, by omega, HEX5, HM5, HY5, HMI5⟩
                        case measure => simp [intOf]; omega
                      case neg =>
                        have him : mid ≤ i4 := by omega
                        go_wp2_with fail
                        go_loopw [10, 11] (fun tj tk wr => ∃ (j5 k5 : Nat) (Y : Nat → Int), tj = .int .i64 (j5 : Int) ∧ tk = .int .i64 (k5 : Int) ∧ mid ≤ j5 ∧ j5 ≤ hi ∧ k5 = j5 ∧ Hid (MS B w wr p Cp q Cq n X1 Y) ∧ Hid (∀ r, r < lo → Y r = Y2 r) ∧ Hid (MI X1 Y lo mid hi i4 j5 k5 M)) (fun tj _ _ => hi - (intOf tj).toNat)
                        case atStart => exact ⟨j, k4, Y4, rfl, rfl, by omega, by omega, by omega, HM4, HY4, HMI4⟩
                        case round =>
                          clear HM4 HY4 HMI4 HEX4
                          obtain ⟨j5, k5, Y5, rfl, rfl, h51, h52, hk5, HM5, HY5, HMI5⟩ := hrel
                          by_cases hj5 : j5 < hi
                          case pos =>
                            have hj5' : (j5 : Int) < (hi : Int) := by omega
                            have hj5n : (j5 : Int) < (n : Int) := by omega
                            have hk5n : (k5 : Int) < (n : Int) := by omega
                            have hk5m : k5 < n := by omega
                            have HK5 : Hid (k5 = j5) := hk5
                            clear hk5
                            obtain ⟨y, HY⟩ : ∃ y, Hid (X1 j5 = y) := ⟨_, rfl⟩
                            have e1 := HM5.out.1.cell (q := j5) (by omega)
                            rw [HY.out] at e1
                            have e2 := HM5.out.2.1.cell hk5m
                            have e3 := HM5.out.2.1.frozen k5
                            generalize Y5 k5 = yk at e2
                            have HM6 : Hid (MS B w (wr.setCell ⟨q, k5, none⟩ (.int .u64 y)) p Cp q Cq n X1 (upd Y5 k5 y)) := HM5.out.put HB.out.1 HB.out.2.2 k5 y
                            have HMI6 : Hid (MI X1 (upd Y5 k5 y) lo mid hi i4 (j5 + 1) (k5 + 1) M) := by
                              have := HMI5.out.restRight (by have := HK5.out; omega) him hj5
                              rw [HY.out] at this
                              exact this
                            have HY6 : Hid (∀ r, r < lo → upd Y5 k5 y r = Y2 r) := fun r hr => by unfold upd; rw [if_neg (by have := HK5.out; omega)]; exact HY5.out r hr
                            go_wp2
                            go_roundw
                            case rel => exact ⟨j5 + 1, k5 + 1, _, by go_num, by go_num, by omega, by omega, by have := HK5.out; omega, HM6, HY6, HMI6⟩
                            case measure => simp [intOf]; omega
                          case neg =>
                            have hke : k5 = hi := by omega
                            have HS5 : Hid (seg Y5 lo hi = M) := by
                              have := HMI5.out.done him (by omega)
                              rw [hke] at this
                              exact this
                            have HD5 : Hid (Done (T + 1) wd n X1 Y5) := done_step HD.out HC.out.1 HT.out hln HMH.out.1 HMH.out.2 HY5.out (by rw [HS5.out, HMM.out])
                            have HT5 : Hid (lo + 2 * wd = (T + 1) * (2 * wd)) := by show _ = _; rw [Nat.add_mul, Nat.one_mul, ← HT.out]
                            clear hk5 hke
                            go_wp2
                            go_roundw
                            case rel => exact ⟨T + 1, lo + 2 * wd, Y5, by go_num, by omega, HT5, HM5, HD5⟩
                            case measure => simp [intOf]; omega

end Go.Proofs.Qxb6605226a.View
