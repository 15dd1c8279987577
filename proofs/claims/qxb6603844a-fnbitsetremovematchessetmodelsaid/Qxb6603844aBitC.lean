/-
  The law over bitset.remove (5): the walk.
-/
import Derived.Test.Qxb6603844aBitB
namespace Go.Proofs.Qxb6603844a.Bit
open Go.ChangeShapes Go.WideShapes Go.ChangeAt Go.RowKit
set_option linter.unusedVariables false
set_option linter.unusedSimpArgs false

set_option maxRecDepth 100000 in
set_option maxHeartbeats 2000000 in
theorem law5_big (a b : Option Addr) (n m c d : Nat) (i : Int) (w : World) (hn : n ≤ 9223372036854775807) (hm : m ≤ 9223372036854775807) (hbad : ¬ (n ≤ 131072 ∧ m ≤ 131072 ∧ n + m ≤ 131072) ∨ i < 0) :
    Calls Try.prog 5 #[.slice a n c, .slice b m d, .int .i64 i] w fun e w' => e = .returned (.bool true) ∧ Below w.heap.size w w' := by
  go_enter Try.func5, Try.ntmps5
  go_upto_if 18 with (go_at_call 14; refine (bytes14 _ _ _ _ _ _ _ _ hn hm).mono ?_; rintro e w1 ⟨⟨bb, rfl⟩, hw1⟩; have hw2 := hw1.symm; subst hw2; clear hw1)
  cases bb
  · go_wp2
    go_ret
    exact ⟨rfl, Below.refl _ _⟩
  · by_cases q1 : n ≤ 131072
    · have p1 : decide ((131072 : Int) < (n : Int)) = false := by simp; omega
      by_cases q2 : m ≤ 131072
      · have p2 : decide ((131072 : Int) < (m : Int)) = false := by simp; omega
        by_cases q3 : n + m ≤ 131072
        · have p3 : decide ((131072 : Int) < (n : Int) + (m : Int)) = false := by simp; omega
          have hneg : i < 0 := by rcases hbad with h | h; exact absurd ⟨q1, q2, q3⟩ h; exact h
          clear hbad
          go_wp2
          go_ret
          exact ⟨rfl, Below.refl _ _⟩
        · have p3 : decide ((131072 : Int) < (n : Int) + (m : Int)) = true := by simp; omega
          clear hbad
          go_wp2
          go_ret
          exact ⟨rfl, Below.refl _ _⟩
      · have p2 : decide ((131072 : Int) < (m : Int)) = true := by simp; omega
        clear hbad
        go_wp2
        go_ret
        exact ⟨rfl, Below.refl _ _⟩
    · have p1 : decide ((131072 : Int) < (n : Int)) = true := by simp; omega
      clear hbad
      go_wp2
      go_ret
      exact ⟨rfl, Below.refl _ _⟩

/-- A slice that holds something is copied. -/
theorem clone_rd (v : Value) (zs : List Int) (w : World) (h : Rd w v zs) (h0 : 0 < zs.length) (hl : zs.length ≤ 1048576) :
    Calls Try.prog 8 #[v] w fun e w' => e = .returned (.slice (some ⟨w.heap.size, 0, none⟩) zs.length zs.length) ∧ Row w' w.heap.size zs ∧ Below w.heap.size w w' ∧ w'.heap.size = w.heap.size + 1 := by
  obtain ⟨a, c, rfl, hc, hp⟩ := h
  obtain ⟨b, off, rfl, -, hcell⟩ := hp h0
  exact clone_any ⟨b, off, none⟩ zs.length c zs w hl (fun i hi => by rw [add_plain]; exact hcell i hi)

theorem Row.next {w w' : World} {g : Nat} {xs : List Int} (h : Row w g xs) (hb : Below w.heap.size w w') : Row w' g xs := World.rowIs.of_block h (hb.block g h.lt)

theorem rd_len {w : World} {a : Option Addr} {n c : Nat} {ws : List Int} (h : Rd w (.slice a n c) ws) : n = ws.length := by
  obtain ⟨a', c', hv, -, -⟩ := h
  cases hv; rfl

set_option maxRecDepth 100000 in
set_option maxHeartbeats 1000000 in
theorem law5_main (a b : Option Addr) (n m c d i : Nat) (ws nz : List Int) (w : World) (q1 : n ≤ 131072) (q2 : m ≤ 131072) (q3 : n + m ≤ 131072) (hi : i ≤ 9223372036854775807)
    (R1 : Hid (Rd w (.slice a n c) ws)) (R2 : Hid (Rd w (.slice b m d) nz)) (W1 : Hid (Wds ws ∧ Wds nz)) (N1 : Hid (n = ws.length)) (N2 : Hid (m = nz.length)) :
    Calls Try.prog 5 #[.slice a n c, .slice b m d, .int .i64 (i : Int)] w fun e w' => e = .returned (.bool true) ∧ Below w.heap.size w w' := by
  have p1 : decide ((131072 : Int) < (n : Int)) = false := by simp; omega
  have p2 : decide ((131072 : Int) < (m : Int)) = false := by simp; omega
  have p3 : decide ((131072 : Int) < (n : Int) + (m : Int)) = false := by simp; omega
  go_enter Try.func5, Try.ntmps5
  go_upto_if 18 with (go_at_call 14; refine (bytes14 _ _ _ _ _ _ _ _ (by omega) (by omega)).mono ?_; rintro e w1 ⟨⟨bb, rfl⟩, hw1⟩; have hw2 := hw1.symm; subst hw2; clear hw1)
  cases bb
  · go_wp2
    go_ret
    exact ⟨rfl, Below.refl _ _⟩
  go_wp2_with fail
  clear p1 p2 p3
  refine (wf_any _ _ ws nz w R1.out R2.out W1.out.1 W1.out.2 (by rw [← N1.out]; omega) (by rw [← N2.out]; omega)).mono ?_
  rintro e w1 ⟨r, rfl, hr, hw1⟩
  have hw2 := hw1.symm
  subst hw2
  have HR : Hid (r = true ↔ WF ws nz) := hr
  clear hw1 hr
  cases r
  · go_wp2
    go_ret
    exact ⟨rfl, Below.refl _ _⟩
  have HWF : Hid (WF ws nz) := HR.out.1 rfl
  clear HR
  go_wp2_with fail
  refine (bit_any _ ws i w R1.out W1.out.1 (by rw [← N1.out]; omega) hi).mono ?_
  rintro e w1 ⟨rfl, hw1⟩
  have hw2 := hw1.symm
  subst hw2
  clear hw1
  cases hbi : bitB ws i
  · clear hbi
    go_wp2
    go_ret
    exact ⟨rfl, Below.refl _ _⟩
  have hk : i / 64 < n := by
    rw [N1.out]
    unfold bitB at hbi
    by_cases h : i / 64 < ws.length
    · exact h
    · rw [if_neg h] at hbi; cases hbi
  have hkm : i / 64 / 64 < m := by have := HWF.out.1; rw [← N1.out, ← N2.out] at this; omega
  clear hbi
  go_wp2_with fail
  refine (clone_rd _ ws w R1.out (by rw [← N1.out]; omega) (by rw [← N1.out]; omega)).mono ?_
  rintro e y1 ⟨rfl, ra, hb1, hs⟩
  have hs1 := hide2 hs True.intro
  clear hs
  rw [← N1.out]
  have RA : Hid (Row y1 w.heap.size ws) := ra
  have B1 : Hid (Below w.heap.size w y1) := hb1
  have R2' : Hid (Rd y1 (.slice b m d) nz) := R2.out.next hb1
  clear ra hb1
  go_wp2_with fail
  refine (clone_rd _ nz y1 R2'.out (by rw [← N2.out]; omega) (by rw [← N2.out]; omega)).mono ?_
  rintro e y2 ⟨rfl, rb, hb2, hs⟩
  have hs2 := hide2 hs True.intro
  clear hs
  rw [← N2.out]
  have RB : Hid (Row y2 y1.heap.size nz) := rb
  have B2 : Hid (Below w.heap.size w y2) := B1.out.trans (hb2.mono B1.out.size)
  have RA2 : Hid (Row y2 w.heap.size ws) := RA.out.next hb2
  clear rb hb2 RA B1 R2'
  go_wp2_with fail
  have t1 := clone_rd (.slice (some ⟨w.heap.size, 0, none⟩) n n) ws y2 (RA2.out.rd n N1.out) (by rw [← N1.out]; omega) (by rw [← N1.out]; omega)
  rw [← N1.out] at t1
  refine t1.mono ?_
  clear t1
  rintro e y3 ⟨rfl, rc, hb3, hs⟩
  have hs3 := hide2 hs True.intro
  clear hs
  have RC : Hid (Row y3 y2.heap.size ws) := rc
  have B3 : Hid (Below w.heap.size w y3) := B2.out.trans (hb3.mono B2.out.size)
  have RA3 : Hid (Row y3 w.heap.size ws) := RA2.out.next hb3
  have RB3 : Hid (Row y3 y1.heap.size nz) := RB.out.next hb3
  clear rc hb3 RA2 RB B2
  go_wp2_with fail
  have t1 := clone_rd (.slice (some ⟨y1.heap.size, 0, none⟩) m m) nz y3 (RB3.out.rd m N2.out) (by rw [← N2.out]; omega) (by rw [← N2.out]; omega)
  rw [← N2.out] at t1
  refine t1.mono ?_
  clear t1
  rintro e y4 ⟨rfl, rd, hb4, hs⟩
  have hs4 := hide2 hs True.intro
  clear hs
  have RD : Hid (Row y4 y3.heap.size nz) := rd
  have B4 : Hid (Below w.heap.size w y4) := B3.out.trans (hb4.mono B3.out.size)
  have RA4 : Hid (Row y4 w.heap.size ws) := RA3.out.next hb4
  have RB4 : Hid (Row y4 y1.heap.size nz) := RB3.out.next hb4
  have RC4 : Hid (Row y4 y2.heap.size ws) := RC.out.next hb4
  have HS := hide2 hs1.out.1 (hide2 hs2.out.1 (hide2 hs3.out.1 hs4.out.1))
  clear rd hb4 RA3 RB3 RC B3 hs1 hs2 hs3 hs4
  go_wp2_with fail
  have t1 := shim_any y2.heap.size y3.heap.size n m i ws nz y4 hi hk hkm N1.out N2.out (by omega) (by omega) RC4.out RD.out W1.out.1 W1.out.2 (by have := HS.out.2.out.2.out.1; omega)
  refine t1.mono ?_
  clear t1
  rintro e W ⟨rfl, HX⟩
  obtain ⟨f1, f2, f3⟩ := HX.out
  have z1 := HS.out.1
  have z2 := HS.out.2.out.1
  have z3 := HS.out.2.out.2.out.1
  have z4 := HS.out.2.out.2.out.2
  have hA : Row W w.heap.size ws := World.rowIs.of_block RA4.out (f3.block _ (by omega) (by omega) (by omega))
  have hBW : Below w.heap.size w W := B4.out.trans ⟨f3.os, f3.tape, f3.output, f3.size, fun k hk => f3.block k (by omega) (by omega) (by omega)⟩
  have HBW : Hid (Below w.heap.size w W) := hBW
  have l2 : n = (w2 ws i).length := by rw [w2_len]; exact N1.out
  have l3 : m = (Bit.n2 ws nz i).length := by rw [n2_len]; exact N2.out
  have BA : Hid (∀ j : Nat, j ≤ 9223372036854775807 → Calls Try.prog 11 #[.slice (some ⟨w.heap.size, 0, none⟩) n n, .int .i64 (j : Int)] W fun e w' => e = .returned (.bool (bitB ws j)) ∧ w' = W) := fun j hj => bit_any _ ws j W (hA.rd n N1.out) W1.out.1 (by rw [← N1.out]; omega) hj
  have BB : Hid (∀ j : Nat, j ≤ 9223372036854775807 → Calls Try.prog 11 #[.slice (some ⟨y2.heap.size, 0, none⟩) n n, .int .i64 (j : Int)] W fun e w' => e = .returned (.bool (bitB (w2 ws i) j)) ∧ w' = W) := fun j hj => bit_any _ (w2 ws i) j W (f1.rd n l2) (wds_w2 ws i W1.out.1) (by rw [← l2]; omega) hj
  have BN : Hid (∀ j : Nat, j ≤ 9223372036854775807 → Calls Try.prog 11 #[.slice (some ⟨y3.heap.size, 0, none⟩) m m, .int .i64 (j : Int)] W fun e w' => e = .returned (.bool (bitB (Bit.n2 ws nz i) j)) ∧ w' = W) := fun j hj => bit_any _ (Bit.n2 ws nz i) j W (f2.rd m l3) (wds_n2 ws nz i W1.out.2) (by rw [← l3]; omega) hj
  have BF : Hid (Calls Try.prog 13 #[.slice (some ⟨y2.heap.size, 0, none⟩) n n, .slice (some ⟨y3.heap.size, 0, none⟩) m m] W (WfPost (w2 ws i) (Bit.n2 ws nz i) W)) := wf_any _ _ _ _ W (f1.rd n l2) (f2.rd m l3) (wds_w2 ws i W1.out.1) (wds_n2 ws nz i W1.out.2) (by rw [← l2]; omega) (by rw [← l3]; omega)
  have hkw : i / 64 < ws.length := by rw [← N1.out]; exact hk
  have HF2 : Hid (WF (w2 ws i) (Bit.n2 ws nz i)) := wf2 ws nz i W1.out.1 W1.out.2 HWF.out hkw
  have HE1 : Hid (∀ j, bitB (w2 ws i) j = (bitB ws j && decide (j ≠ i))) := fun j => w2_bit ws i W1.out.1 hkw j
  have HE2 : Hid (∀ q, q < 64 * m → bitB (Bit.n2 ws nz i) q = (decide (q < n) && decide ((w2 ws i).getD q 0 ≠ 0))) := fun q hq => by
    rw [N1.out]; exact n2_bit ws nz i W1.out.1 W1.out.2 HWF.out hkw q (by rw [← N2.out]; exact hq)
  have HE3 : Hid (∀ q, q < n → ((∃ t, t < 64 ∧ 64 * q + t ≠ i ∧ bitB ws (64 * q + t) = true) ↔ (w2 ws i).getD q 0 ≠ 0)) := fun q hq => want_is ws i W1.out.1 hkw q (by rw [← N1.out]; exact hq)
  clear hBW hA f1 f2 f3 z1 z2 z3 z4 l2 l3 HS RA4 RB4 RC4 RD HX B4 R1 R2 W1 hkw HWF
  go_wp2_with fail
  go_loop [9] (fun t => ∃ q : Nat, q ≤ 64 * n ∧ t = .int .i64 (q : Int)) (fun t => 64 * n - (intOf t).toNat)
  case atStart => exact ⟨0, Nat.zero_le _, rfl⟩
  case round =>
    obtain ⟨q, hq, rfl⟩ := hrel
    by_cases hlt : q < 64 * n
    case pos =>
      have hlt' : (q : Int) < 64 * (n : Int) := by omega
      have h1 := HE1.out q
      obtain ⟨b1, Hb1⟩ : ∃ b, Hid (bitB ws q = b) := ⟨_, rfl⟩
      have t1 := BB.out q (by omega)
      have t2 := BA.out q (by omega)
      rw [h1] at t1
      rw [Hb1.out] at t1 t2
      have T := hide2 t1 t2
      clear h1 t1 t2
      by_cases hqi : q = i
      case pos =>
        have hqi' : ((q : Int) != (i : Int)) = false := by simp; omega
        have hd : decide (q ≠ i) = false := by simpa using hqi
        have t1 := T.out.1
        rw [hd, Bool.and_false] at t1
        have T1 := hide2 t1 True.intro
        clear t1 hd hqi
        go_wp2_with fail
        refine T1.out.1.mono ?_
        rintro e wx ⟨rfl, hwx⟩
        have hwx2 := hwx.symm
        subst hwx2
        clear hwx
        go_wp2_with fail
        refine T.out.2.mono ?_
        rintro e wx ⟨rfl, hwx⟩
        have hwx2 := hwx.symm
        subst hwx2
        clear hwx
        cases b1
        all_goals
          go_wp2
          go_round
          case rel => exact ⟨q + 1, by omega, by go_num⟩
          case measure => simp [intOf]; omega
      case neg =>
        have hqi' : ((q : Int) != (i : Int)) = true := by simp; omega
        have hd : decide (q ≠ i) = true := by simpa using hqi
        have t1 := T.out.1
        rw [hd, Bool.and_true] at t1
        have T1 := hide2 t1 True.intro
        clear t1 hd hqi
        go_wp2_with fail
        refine T1.out.1.mono ?_
        rintro e wx ⟨rfl, hwx⟩
        have hwx2 := hwx.symm
        subst hwx2
        clear hwx
        go_wp2_with fail
        refine T.out.2.mono ?_
        rintro e wx ⟨rfl, hwx⟩
        have hwx2 := hwx.symm
        subst hwx2
        clear hwx
        cases b1
        all_goals
          go_wp2
          go_round
          case rel => exact ⟨q + 1, by omega, by go_num⟩
          case measure => simp [intOf]; omega
    case neg =>
      have hge : ¬ ((q : Int) < 64 * (n : Int)) := by omega
      go_wp2_with fail
      clear hq hlt hge HE1 BB
      go_loop [10] (fun t => ∃ p : Nat, p ≤ 64 * m ∧ t = .int .i64 (p : Int)) (fun t => 64 * m - (intOf t).toNat)
      case atStart => exact ⟨0, Nat.zero_le _, rfl⟩
      case round =>
        obtain ⟨p, hp, rfl⟩ := hrel
        by_cases hlt : p < 64 * m
        case pos =>
          have hlt' : (p : Int) < 64 * (m : Int) := by omega
          have t1 := BN.out p (by omega)
          rw [HE2.out p hlt] at t1
          by_cases hpn : p < n
          case pos =>
            have hpn' : (p : Int) < (n : Int) := by omega
            have hdn : decide (p < n) = true := by simpa using hpn
            rw [hdn, Bool.true_and] at t1
            have T := hide2 t1 (HE3.out p hpn)
            clear t1 hdn
            go_wp2_with fail
            go_loop [11, 12, 13] (fun b t _ => ∃ (k : Nat) (bw : Bool), k ≤ 64 ∧ t = .int .i64 (k : Int) ∧ b = .bool bw ∧ Hid (bw = true ↔ ∃ t, t < k ∧ 64 * p + t ≠ i ∧ bitB ws (64 * p + t) = true)) (fun _ t _ => 64 - (intOf t).toNat)
            case atStart => exact ⟨0, false, Nat.zero_le _, rfl, rfl, ⟨(fun h => by cases h), fun ⟨t, ht, _⟩ => by omega⟩⟩
            case round =>
              obtain ⟨k, bw, hk64, rfl, rfl, HBW2⟩ := hrel
              by_cases hlk : k < 64
              case pos =>
                have hlk' : (k : Int) < 64 := by omega
                have t2 := BA.out (64 * p + k) (by omega)
                obtain ⟨b1, Hb1⟩ : ∃ b, Hid (bitB ws (64 * p + k) = b) := ⟨_, rfl⟩
                rw [Hb1.out] at t2
                have e0 : ((64 * p + k : Nat) : Int) = 64 * (p : Int) + (k : Int) := by omega
                rw [e0] at t2
                have T2 := hide2 t2 True.intro
                clear t2 e0
                by_cases hji : 64 * p + k = i
                case pos =>
                  have hji' : (64 * (p : Int) + (k : Int) != (i : Int)) = false := by simp; omega
                  have HN2 : Hid (bw = true ↔ ∃ t, t < k + 1 ∧ 64 * p + t ≠ i ∧ bitB ws (64 * p + t) = true) := by
                    refine Iff.trans HBW2.out ⟨fun ⟨t, h1, h2⟩ => ⟨t, by omega, h2⟩, fun ⟨t, h1, h2, h3⟩ => ⟨t, ?_, h2, h3⟩⟩
                    have : t ≠ k := fun e => h2 (by rw [e]; exact hji)
                    omega
                  clear hji
                  go_wp2
                  go_round
                  case rel => exact ⟨k + 1, bw, by omega, by go_num, rfl, HN2⟩
                  case measure => simp [intOf]; omega
                case neg =>
                  have hji' : (64 * (p : Int) + (k : Int) != (i : Int)) = true := by simp; omega
                  have HJI := hide2 hji True.intro
                  clear hji
                  go_wp2_with fail
                  refine T2.out.1.mono ?_
                  rintro e wx ⟨rfl, hwx⟩
                  have hwx2 := hwx.symm
                  subst hwx2
                  clear hwx
                  cases b1
                  case false =>
                    have HN2 : Hid (bw = true ↔ ∃ t, t < k + 1 ∧ 64 * p + t ≠ i ∧ bitB ws (64 * p + t) = true) := by
                      refine Iff.trans HBW2.out ⟨fun ⟨t, h1, h2⟩ => ⟨t, by omega, h2⟩, fun ⟨t, h1, h2, h3⟩ => ⟨t, ?_, h2, h3⟩⟩
                      have : t ≠ k := fun e => by rw [e, Hb1.out] at h3; cases h3
                      omega
                    go_wp2
                    go_round
                    case rel => exact ⟨k + 1, bw, by omega, by go_num, rfl, HN2⟩
                    case measure => simp [intOf]; omega
                  case true =>
                    have HN2 : Hid (∃ t, t < k + 1 ∧ 64 * p + t ≠ i ∧ bitB ws (64 * p + t) = true) := ⟨k, by omega, HJI.out.1, Hb1.out⟩
                    go_wp2
                    go_round
                    case rel => exact ⟨k + 1, true, by omega, by go_num, rfl, ⟨fun _ => HN2.out, fun _ => rfl⟩⟩
                    case measure => simp [intOf]; omega
              case neg =>
                have hk2 : 64 = k := by omega
                have HEQ : Hid (decide ((w2 ws i).getD p 0 ≠ 0) = bw) := by
                  show _ = _
                  have h1 := HBW2.out
                  rw [← hk2] at h1
                  have h2 := h1.trans T.out.2
                  cases bw
                  · exact decide_eq_false (fun h => by have := h2.2 h; cases this)
                  · exact decide_eq_true (h2.1 rfl)
                have t3 := T.out.1
                rw [HEQ.out] at t3
                have T3 := hide2 t3 True.intro
                have hge2 : ¬ ((k : Int) < 64) := by omega
                clear t3 hk2 HBW2
                go_wp2_with fail
                refine T3.out.1.mono ?_
                rintro e wx ⟨rfl, hwx⟩
                have hwx2 := hwx.symm
                subst hwx2
                clear hwx
                cases bw
                all_goals
                  go_wp2
                  go_round
                  case rel => exact ⟨p + 1, by omega, by go_num⟩
                  case measure => simp [intOf]; omega
          case neg =>
            have hpn' : ¬ ((p : Int) < (n : Int)) := by omega
            have hdn : decide (p < n) = false := by simpa using hpn
            rw [hdn, Bool.false_and] at t1
            have T := hide2 t1 True.intro
            clear t1 hdn
            go_wp2_with fail
            refine T.out.1.mono ?_
            rintro e wx ⟨rfl, hwx⟩
            have hwx2 := hwx.symm
            subst hwx2
            clear hwx
            go_wp2
            go_round
            case rel => exact ⟨p + 1, by omega, by go_num⟩
            case measure => simp [intOf]; omega
        case neg =>
          have hge : ¬ ((p : Int) < 64 * (m : Int)) := by omega
          go_wp2_with fail
          refine BF.out.mono ?_
          rintro e wx ⟨r, rfl, hr, hwx⟩
          have hwx2 := hwx.symm
          subst hwx2
          have hrt : r = true := hr.2 HF2.out
          subst hrt
          clear hwx hr
          go_wp2
          go_ret
          exact ⟨rfl, HBW.out⟩

end Go.Proofs.Qxb6603844a.Bit
