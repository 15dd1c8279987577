/-
  zzBit (11) and zzWellFormed (13): the walks.
-/
import Derived.Test.Qxb6603844aChecked
import Derived.Test.Qxb6603844aBitPlain
import Derived.WalkKit
import Derived.ProofKit
import Derived.OpenShut
import Derived.Below
import Derived.Deep.OwnRows
import Derived.Deep.QuietTactic
import Derived.BigQuiet
import Derived.WalkSmall
import Derived.Lib.SliceRun
namespace Go.Proofs.Qxb6603844a.Bit
open Go.ChangeShapes Go.WideShapes Go.ChangeAt Go.RowKit
set_option linter.unusedVariables false
set_option linter.unusedSimpArgs false

theorem hide2 {p q : Prop} (h : p) (k : q) : Hid (p ∧ q) := ⟨h, k⟩
theorem ret_bool {a b : Bool} (h : a = b) : Ending.returned (.bool a) = .returned (.bool b) := by rw [h]

/-- The slice value v reads as the words ws. -/
def Rd (w : World) (v : Value) (ws : List Int) : Prop :=
  ∃ a c, v = .slice a ws.length c ∧ ws.length ≤ c ∧ (0 < ws.length → ∃ b off, a = some ⟨b, off, none⟩ ∧ b < w.heap.size ∧ ∀ i, i < ws.length → w.cell? ⟨b, off + i, none⟩ = some (.int .u64 (ws.getD i 0)))

theorem Rd.next {w w' : World} {v : Value} {ws : List Int} (h : Rd w v ws) (hb : Below w.heap.size w w') : Rd w' v ws := by
  obtain ⟨a, c, hv, hc, hp⟩ := h
  refine ⟨a, c, hv, hc, fun h0 => ?_⟩
  obtain ⟨b, off, ha, hlt, hcell⟩ := hp h0
  exact ⟨b, off, ha, Nat.lt_of_lt_of_le hlt hb.size, fun i hi => (hb.cell (p := ⟨b, off + i, none⟩) hlt).trans (hcell i hi)⟩

/-- The model's test of one bit. -/
theorem bit_test (x : Int) (t : Nat) (hx : Wd x) : (bits BinOp.and IntKind.u64 (x / 2 ^ t) 1 == 1) = tb x t := by
  have h0 := hx.1
  have h1 := hx.2
  obtain ⟨n, rfl⟩ := Int.eq_ofNat_of_zero_le h0
  have e : ((n : Int) / 2 ^ t) = ((n / 2 ^ t : Nat) : Int) := by simp
  have hle : n / 2 ^ t ≤ n := Nat.div_le_self _ _
  obtain ⟨d, hd⟩ : ∃ d, d = n / 2 ^ t := ⟨_, rfl⟩
  rw [← hd] at hle
  rw [e, ← hd, and_one_u64 _ (by omega) (by omega)]
  unfold tb
  rw [Int.toNat_natCast, Nat.testBit_eq_decide_div_mod_eq, ← hd]
  rw [Bool.eq_iff_iff]
  simp
  omega

set_option maxHeartbeats 1000000 in
theorem bit_any (v : Value) (ws : List Int) (j : Nat) (w : World) (h : Rd w v ws) (hw : Wds ws) (hl : ws.length ≤ 1000000) (hj : j ≤ 9223372036854775807) :
    Calls Try.prog 11 #[v, .int .i64 (j : Int)] w fun e w' => e = .returned (.bool (bitB ws j)) ∧ w' = w := by
  obtain ⟨a, c, rfl, -, hp⟩ := h
  obtain ⟨n, HN⟩ : ∃ n, Hid (n = ws.length) := ⟨_, rfl⟩
  rw [← HN.out] at hp hl ⊢
  by_cases hlt : j / 64 < n
  · obtain ⟨b, off, rfl, -, hcell⟩ := hp (by omega)
    have hwd := hw (j / 64) (by rw [← HN.out]; exact hlt)
    obtain ⟨x, hx⟩ : ∃ x, x = ws.getD (j / 64) 0 := ⟨_, rfl⟩
    have hc := hcell (j / 64) hlt
    rw [← hx] at hc hwd
    have h0 := hwd.1
    have h1 := hwd.2
    have HB : Hid (bitB ws j = (bits BinOp.and IntKind.u64 (x / 2 ^ (j % 64)) 1 == 1)) := by
      show _ = _
      rw [bit_test x (j % 64) hwd]
      unfold bitB
      rw [← HN.out, if_pos hlt, ← hx]
    have h2 : (j : Int) / 64 < (n : Int) := by omega
    clear hcell hp hx hwd hw
    go_enter Try.func11, Try.ntmps11
    go_wp2
    go_ret
    exact ⟨ret_bool HB.out.symm, rfl⟩
  · have HB : Hid (bitB ws j = false) := by
      show _ = _
      unfold bitB
      rw [← HN.out, if_neg hlt]
    have h2 : ¬ ((j : Int) / 64 < (n : Int)) := by omega
    clear hp hw
    go_enter Try.func11, Try.ntmps11
    go_wp2
    go_ret
    exact ⟨ret_bool HB.out.symm, rfl⟩

/-- What zzWellFormed answers. -/
def WfPost (ws nz : List Int) (w : World) (e : Ending) (w' : World) : Prop := ∃ r, e = .returned (.bool r) ∧ (r = true ↔ WF ws nz) ∧ w' = w
theorem wf_no {ws nz : List Int} {w : World} {e : Ending} (he : e = .returned (.bool false)) (h : ¬ WF ws nz) : WfPost ws nz w e w := ⟨false, he, ⟨(fun h => by cases h), fun k => absurd k h⟩, rfl⟩
theorem wf_yes {ws nz : List Int} {w : World} {e : Ending} (he : e = .returned (.bool true)) (h : WF ws nz) : WfPost ws nz w e w := ⟨true, he, ⟨fun _ => h, fun _ => rfl⟩, rfl⟩

set_option maxRecDepth 100000 in
set_option maxHeartbeats 2000000 in
theorem wf_any (v u : Value) (ws nz : List Int) (w : World) (h : Rd w v ws) (k : Rd w u nz) (hw : Wds ws) (hn : Wds nz) (hl : ws.length ≤ 1000000) (hk : nz.length ≤ 1000000) :
    Calls Try.prog 13 #[v, u] w (WfPost ws nz w) := by
  have HB : Hid (∀ j : Nat, j ≤ 9223372036854775807 → Calls Try.prog 11 #[u, .int .i64 (j : Int)] w fun e w' => e = .returned (.bool (bitB nz j)) ∧ w' = w) := fun j hj => bit_any u nz j w k hn hk hj
  obtain ⟨a, c, rfl, -, hp⟩ := h
  obtain ⟨a', c', rfl, -, -⟩ := k
  obtain ⟨n, HN⟩ : ∃ n, Hid (n = ws.length) := ⟨_, rfl⟩
  obtain ⟨m, HM⟩ : ∃ m, Hid (m = nz.length) := ⟨_, rfl⟩
  rw [← HN.out] at hp hl ⊢
  rw [← HM.out] at hk HB ⊢
  have HP := hide2 hp hw
  clear hp hw hn
  by_cases hlen : n ≤ 64 * m
  · have hlen' : (n : Int) ≤ 64 * (m : Int) := by omega
    go_enter Try.func13, Try.ntmps13
    go_wp2_with fail
    go_loop [5, 6] (fun t _ => ∃ q : Nat, q ≤ 64 * m ∧ t = .int .i64 (q : Int) ∧ Hid (∀ p, p < q → bitB nz p = (decide (p < ws.length) && decide (ws.getD p 0 ≠ 0)))) (fun t _ => 64 * m - (intOf t).toNat)
    case atStart => exact ⟨0, Nat.zero_le _, rfl, fun p hp => by omega⟩
    case round =>
      obtain ⟨q, hq, rfl, HQ⟩ := hrel
      by_cases hlt : q < 64 * m
      · have hlt' : (q : Int) < 64 * (m : Int) := by omega
        have hB := HB.out q (by omega)
        obtain ⟨bb, Hbb⟩ : ∃ b, Hid (bitB nz q = b) := ⟨_, rfl⟩
        rw [Hbb.out] at hB
        have HBB := hide2 hB True.intro
        clear hB
        by_cases hqn : q < n
        · obtain ⟨b, off, rfl, -, hcell⟩ := HP.out.1 (by omega)
          obtain ⟨x, hx⟩ : ∃ x, x = ws.getD q 0 := ⟨_, rfl⟩
          have hc := hcell q hqn
          rw [← hx] at hc
          have HX := hide2 hx True.intro
          have hqn' : (q : Int) < (n : Int) := by omega
          clear hcell hx
          by_cases hz : x = 0
          · have hz' : (x != 0) = false := by simpa using hz
            have HW : Hid ((decide (q < ws.length) && decide (ws.getD q 0 ≠ 0)) = false) := by
              show _ = _; rw [← HX.out.1, hz]; simp
            clear hz
            go_wp2_with fail
            refine HBB.out.1.mono ?_
            rintro e wx ⟨rfl, hwx⟩
            have hwx2 := hwx.symm
            subst hwx2
            clear hwx
            cases bb
            · go_wp2
              go_round
              case rel => exact ⟨q + 1, by omega, by go_num, fun p hp => by
                by_cases e : p = q
                · rw [e, Hbb.out, HW.out]
                · exact HQ.out p (by omega)⟩
              case measure => simp [intOf]; omega
            · go_wp2
              go_ret
              refine wf_no rfl (fun h => ?_)
              have := h.2 q (by rw [← HM.out]; exact hlt)
              rw [Hbb.out, HW.out] at this
              cases this
          · have hz' : (x != 0) = true := by simpa using hz
            have HW : Hid ((decide (q < ws.length) && decide (ws.getD q 0 ≠ 0)) = true) := by
              show _ = _; rw [← HX.out.1, ← HN.out]; simp [hqn, hz]
            clear hz
            go_wp2_with fail
            refine HBB.out.1.mono ?_
            rintro e wx ⟨rfl, hwx⟩
            have hwx2 := hwx.symm
            subst hwx2
            clear hwx
            cases bb
            · go_wp2
              go_ret
              refine wf_no rfl (fun h => ?_)
              have := h.2 q (by rw [← HM.out]; exact hlt)
              rw [Hbb.out, HW.out] at this
              cases this
            · go_wp2
              go_round
              case rel => exact ⟨q + 1, by omega, by go_num, fun p hp => by
                by_cases e : p = q
                · rw [e, Hbb.out, HW.out]
                · exact HQ.out p (by omega)⟩
              case measure => simp [intOf]; omega
        · have hqn' : decide ((q : Int) < (n : Int)) = false := by simp; omega
          have HW : Hid ((decide (q < ws.length) && decide (ws.getD q 0 ≠ 0)) = false) := by
            show _ = _; rw [← HN.out]; simp [hqn]
          go_wp2_with fail
          refine HBB.out.1.mono ?_
          rintro e wx ⟨rfl, hwx⟩
          have hwx2 := hwx.symm
          subst hwx2
          clear hwx
          cases bb
          · go_wp2
            go_round
            case rel => exact ⟨q + 1, by omega, by go_num, fun p hp => by
              by_cases e : p = q
              · rw [e, Hbb.out, HW.out]
              · exact HQ.out p (by omega)⟩
            case measure => simp [intOf]; omega
          · go_wp2
            go_ret
            refine wf_no rfl (fun h => ?_)
            have := h.2 q (by rw [← HM.out]; exact hlt)
            rw [Hbb.out, HW.out] at this
            cases this
      · have hge : ¬ ((q : Int) < 64 * (m : Int)) := by omega
        go_wp2
        go_ret
        exact wf_yes rfl ⟨by rw [← HN.out, ← HM.out]; exact hlen, fun p hp => HQ.out p (by rw [← HM.out] at hp; omega)⟩
  · have hlen' : 64 * (m : Int) < (n : Int) := by omega
    go_enter Try.func13, Try.ntmps13
    go_wp2
    go_ret
    refine wf_no rfl (fun h => ?_)
    have := h.1
    rw [← HN.out, ← HM.out] at this
    omega

end Go.Proofs.Qxb6603844a.Bit
