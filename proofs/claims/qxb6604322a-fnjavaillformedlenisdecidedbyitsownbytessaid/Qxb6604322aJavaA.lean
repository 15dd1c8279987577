/-
  The walk of javaIllFormedLen (33) and of its shim (11).
-/
import Derived.Test.Qxb6604322aChecked
import Derived.Test.Qxb6604322aJavaPlain
import Derived.WalkKit
import Derived.ProofKit
import Derived.OpenShut
import Derived.Below
namespace Go.Proofs.Qxb6604322a.Java
open Go.ChangeShapes Go.WideShapes Go.ChangeAt Go.RowKit
set_option linter.unusedVariables false
set_option linter.unusedSimpArgs false

theorem ret_int {k : IntKind} {a b : Int} (h : a = b) : Ending.returned (.int k a) = .returned (.int k b) := by rw [h]

theorem trail_tl (c : Int) (k : Nat) (h : 1 ≤ k) : (trail c).getD k (128, 191) = (128, 191) := by
  obtain ⟨k, rfl⟩ : ∃ j, k = j + 1 := ⟨k - 1, by omega⟩
  unfold trail
  split
  · match k with
    | 0 => rfl
    | _ + 1 => simp
  · split
    · match k with
      | 0 => rfl
      | 1 => rfl
      | _ + 2 => simp
    · simp

theorem getD_other (ts : List (Int × Int)) (k : Nat) (d e : Int × Int) (h : k < ts.length) : ts.getD k d = ts.getD k e := by
  simp [h]

/-- The loop's end: it stops at k. -/
theorem jl_stop (c0 : Int) (ps : List Int) (k : Nat) (l h : Int) (hm : k ≤ matched ps (trail c0)) (hd : (trail c0).getD k (128, 191) = (l, h))
    (c : ps.length ≤ k ∨ (trail c0).length ≤ k ∨ ps.getD k 0 < l ∨ h < ps.getD k 0) : jlen (c0 :: ps) = k + 1 := by
  simp only [jlen]
  by_cases c1 : ps.length ≤ k
  · rw [matched_stop ps (trail c0) k hm (.inl c1)]
  by_cases c2 : (trail c0).length ≤ k
  · rw [matched_stop ps (trail c0) k hm (.inr (.inl c2))]
  · rw [matched_stop ps (trail c0) k hm (.inr (.inr ?_))]
    rw [getD_other _ _ _ (128, 191) (by omega), hd]
    simp only
    omega

/-- The loop goes on. -/
theorem jl_next (c0 : Int) (ps : List Int) (k : Nat) (l h : Int) (hm : k ≤ matched ps (trail c0)) (hd : (trail c0).getD k (128, 191) = (l, h)) (hp : k < ps.length) (ht : k < (trail c0).length)
    (h1 : l ≤ ps.getD k 0) (h2 : ps.getD k 0 ≤ h) : k + 1 ≤ matched ps (trail c0) := by
  refine matched_step ps (trail c0) k hm hp ht ?_
  rw [getD_other _ _ _ (128, 191) ht, hd]
  exact ⟨h1, h2⟩

set_option maxHeartbeats 2000000 in
theorem jil_any (b off len cap : Nat) (c0 : Int) (ps : List Int) (w : World) (hlen : len = ps.length + 1) (hsz : len ≤ 1048576)
    (hc : ∀ i, i < len → w.cell? ⟨b, off + i, none⟩ = some (.int .u8 ((c0 :: ps).getD i 0))) :
    Calls Try.prog 33 #[.slice (some ⟨b, off, none⟩) len cap] w fun e w' => e = .returned (.int .i64 (jlen (c0 :: ps) : Nat)) ∧ w' = w := by
  have h0 : w.cell? ⟨b, off, none⟩ = some (.int .u8 c0) := by simpa using hc 0 (by omega)
  have hp : (0 : Int) < (len : Int) := by omega
  have HL : Hid (len = ps.length + 1) := hlen
  have HC : Hid (∀ i, i < len → w.cell? ⟨b, off + i, none⟩ = some (.int .u8 ((c0 :: ps).getD i 0))) := hc
  clear hlen hc
  by_cases hn : 0xe0 ≤ c0 ∧ c0 ≤ 0xf4
  · obtain ⟨hn1, hn2⟩ := hn
    by_cases he : c0 ≤ 0xef
    · have HT : Hid ((trail c0).length = 2) := by show _ = _; unfold trail; rw [if_pos ⟨hn1, he⟩]; rfl
      by_cases e0 : c0 = 0xe0
      · have H0 : Hid ((trail c0).getD 0 (128, 191) = (160, 191)) := by show _ = _; rw [trail_e0 c0 e0]; rfl
        have e1 : (c0 == 224) = true := by simpa using e0
        clear e0
        go_enter Try.func33, Try.ntmps33
        go_wp2
        go_loop [5, 6, 7] (fun lo hi n => ∃ (k : Nat) (l h : Int), k ≤ 2 ∧ n = .int .i64 ((k : Int) + 1) ∧ k ≤ matched ps (trail c0) ∧ Hid ((trail c0).getD k (128, 191) = (l, h)) ∧ lo = .int .u8 l ∧ hi = .int .u8 h) (fun _ _ n => 4 - (intOf n).toNat)
        case atStart => exact ⟨0, _, _, by omega, rfl, Nat.zero_le _, H0, rfl, rfl⟩
        case round =>
          obtain ⟨k, l, h, hk, rfl, hm, HD, rfl, rfl⟩ := hrel
          have hml := matched_le_left ps (trail c0)
          have hkp : k + 1 ≤ len := by have := HL.out; omega
          clear hml
          by_cases hk2 : k < 2
          · by_cases hkl : k + 1 = len
            · have hkb : ((k : Int) + 1 == (len : Int)) = true := by simp; omega
              have HJ : Hid (jlen (c0 :: ps) = k + 1) := jl_stop c0 ps k l h hm HD.out (.inl (by have := HL.out; omega))
              clear hkl
              go_wp2
              go_ret
              exact ⟨ret_int (by rw [HJ.out]; simp), rfl⟩
            · have hkb : ((k : Int) + 1 == (len : Int)) = false := by simp; omega
              have hlt : (k : Int) + 1 < (len : Int) := by omega
              obtain ⟨v, HV⟩ : ∃ v, Hid (ps.getD k 0 = v) := ⟨_, rfl⟩
              have hcell : w.cell? ⟨b, off + (k + 1), none⟩ = some (.int .u8 v) := by
                have := HC.out (k + 1) (by omega)
                rw [← HV.out]; simpa using this
              clear hkl
              by_cases hv : v < l
              · have HJ : Hid (jlen (c0 :: ps) = k + 1) := jl_stop c0 ps k l h hm HD.out (.inr (.inr (.inl (by rw [HV.out]; exact hv))))
                go_wp2
                go_ret
                exact ⟨ret_int (by rw [HJ.out]; simp), rfl⟩
              · by_cases hu : h < v
                · have HJ : Hid (jlen (c0 :: ps) = k + 1) := jl_stop c0 ps k l h hm HD.out (.inr (.inr (.inr (by rw [HV.out]; exact hu))))
                  go_wp2
                  go_ret
                  exact ⟨ret_int (by rw [HJ.out]; simp), rfl⟩
                · have HN : Hid (k + 1 ≤ matched ps (trail c0)) := jl_next c0 ps k l h hm HD.out (by have := HL.out; omega) (by have := HT.out; omega) (by rw [HV.out]; omega) (by rw [HV.out]; omega)
                  go_wp2
                  go_round
                  case rel => exact ⟨k + 1, _, _, by omega, by go_num, HN.out, trail_tl c0 (k + 1) (by omega), rfl, rfl⟩
                  case measure => simp [intOf]; omega
          · have hkT : k = 2 := by omega
            have HJ : Hid (jlen (c0 :: ps) = 2 + 1) := by rw [← hkT]; exact jl_stop c0 ps k l h hm HD.out (.inr (.inl (by have := HT.out; omega)))
            subst hkT
            go_wp2
            go_ret
            exact ⟨ret_int (by rw [HJ.out]; simp), rfl⟩
      · have H0 : Hid ((trail c0).getD 0 (128, 191) = (128, 191)) := by show _ = _; rw [trail_e c0 (by omega)]; rfl
        have e1 : (c0 == 224) = false := by simpa using e0
        have e2 : (c0 == 240) = false := by simp; omega
        have e3 : (c0 == 244) = false := by simp; omega
        clear e0
        go_enter Try.func33, Try.ntmps33
        go_wp2
        go_loop [5, 6, 7] (fun lo hi n => ∃ (k : Nat) (l h : Int), k ≤ 2 ∧ n = .int .i64 ((k : Int) + 1) ∧ k ≤ matched ps (trail c0) ∧ Hid ((trail c0).getD k (128, 191) = (l, h)) ∧ lo = .int .u8 l ∧ hi = .int .u8 h) (fun _ _ n => 4 - (intOf n).toNat)
        case atStart => exact ⟨0, _, _, by omega, rfl, Nat.zero_le _, H0, rfl, rfl⟩
        case round =>
          obtain ⟨k, l, h, hk, rfl, hm, HD, rfl, rfl⟩ := hrel
          have hml := matched_le_left ps (trail c0)
          have hkp : k + 1 ≤ len := by have := HL.out; omega
          clear hml
          by_cases hk2 : k < 2
          · by_cases hkl : k + 1 = len
            · have hkb : ((k : Int) + 1 == (len : Int)) = true := by simp; omega
              have HJ : Hid (jlen (c0 :: ps) = k + 1) := jl_stop c0 ps k l h hm HD.out (.inl (by have := HL.out; omega))
              clear hkl
              go_wp2
              go_ret
              exact ⟨ret_int (by rw [HJ.out]; simp), rfl⟩
            · have hkb : ((k : Int) + 1 == (len : Int)) = false := by simp; omega
              have hlt : (k : Int) + 1 < (len : Int) := by omega
              obtain ⟨v, HV⟩ : ∃ v, Hid (ps.getD k 0 = v) := ⟨_, rfl⟩
              have hcell : w.cell? ⟨b, off + (k + 1), none⟩ = some (.int .u8 v) := by
                have := HC.out (k + 1) (by omega)
                rw [← HV.out]; simpa using this
              clear hkl
              by_cases hv : v < l
              · have HJ : Hid (jlen (c0 :: ps) = k + 1) := jl_stop c0 ps k l h hm HD.out (.inr (.inr (.inl (by rw [HV.out]; exact hv))))
                go_wp2
                go_ret
                exact ⟨ret_int (by rw [HJ.out]; simp), rfl⟩
              · by_cases hu : h < v
                · have HJ : Hid (jlen (c0 :: ps) = k + 1) := jl_stop c0 ps k l h hm HD.out (.inr (.inr (.inr (by rw [HV.out]; exact hu))))
                  go_wp2
                  go_ret
                  exact ⟨ret_int (by rw [HJ.out]; simp), rfl⟩
                · have HN : Hid (k + 1 ≤ matched ps (trail c0)) := jl_next c0 ps k l h hm HD.out (by have := HL.out; omega) (by have := HT.out; omega) (by rw [HV.out]; omega) (by rw [HV.out]; omega)
                  go_wp2
                  go_round
                  case rel => exact ⟨k + 1, _, _, by omega, by go_num, HN.out, trail_tl c0 (k + 1) (by omega), rfl, rfl⟩
                  case measure => simp [intOf]; omega
          · have hkT : k = 2 := by omega
            have HJ : Hid (jlen (c0 :: ps) = 2 + 1) := by rw [← hkT]; exact jl_stop c0 ps k l h hm HD.out (.inr (.inl (by have := HT.out; omega)))
            subst hkT
            go_wp2
            go_ret
            exact ⟨ret_int (by rw [HJ.out]; simp), rfl⟩
    · have HT : Hid ((trail c0).length = 3) := by show _ = _; unfold trail; rw [if_neg (by omega), if_pos (by omega)]; rfl
      have e1 : (c0 == 224) = false := by simp; omega
      by_cases e0 : c0 = 0xf0
      · have H0 : Hid ((trail c0).getD 0 (128, 191) = (144, 191)) := by show _ = _; rw [trail_f0 c0 e0]; rfl
        have e2 : (c0 == 240) = true := by simpa using e0
        clear e0
        go_enter Try.func33, Try.ntmps33
        go_wp2
        go_loop [5, 6, 7] (fun lo hi n => ∃ (k : Nat) (l h : Int), k ≤ 3 ∧ n = .int .i64 ((k : Int) + 1) ∧ k ≤ matched ps (trail c0) ∧ Hid ((trail c0).getD k (128, 191) = (l, h)) ∧ lo = .int .u8 l ∧ hi = .int .u8 h) (fun _ _ n => 5 - (intOf n).toNat)
        case atStart => exact ⟨0, _, _, by omega, rfl, Nat.zero_le _, H0, rfl, rfl⟩
        case round =>
          obtain ⟨k, l, h, hk, rfl, hm, HD, rfl, rfl⟩ := hrel
          have hml := matched_le_left ps (trail c0)
          have hkp : k + 1 ≤ len := by have := HL.out; omega
          clear hml
          by_cases hk2 : k < 3
          · by_cases hkl : k + 1 = len
            · have hkb : ((k : Int) + 1 == (len : Int)) = true := by simp; omega
              have HJ : Hid (jlen (c0 :: ps) = k + 1) := jl_stop c0 ps k l h hm HD.out (.inl (by have := HL.out; omega))
              clear hkl
              go_wp2
              go_ret
              exact ⟨ret_int (by rw [HJ.out]; simp), rfl⟩
            · have hkb : ((k : Int) + 1 == (len : Int)) = false := by simp; omega
              have hlt : (k : Int) + 1 < (len : Int) := by omega
              obtain ⟨v, HV⟩ : ∃ v, Hid (ps.getD k 0 = v) := ⟨_, rfl⟩
              have hcell : w.cell? ⟨b, off + (k + 1), none⟩ = some (.int .u8 v) := by
                have := HC.out (k + 1) (by omega)
                rw [← HV.out]; simpa using this
              clear hkl
              by_cases hv : v < l
              · have HJ : Hid (jlen (c0 :: ps) = k + 1) := jl_stop c0 ps k l h hm HD.out (.inr (.inr (.inl (by rw [HV.out]; exact hv))))
                go_wp2
                go_ret
                exact ⟨ret_int (by rw [HJ.out]; simp), rfl⟩
              · by_cases hu : h < v
                · have HJ : Hid (jlen (c0 :: ps) = k + 1) := jl_stop c0 ps k l h hm HD.out (.inr (.inr (.inr (by rw [HV.out]; exact hu))))
                  go_wp2
                  go_ret
                  exact ⟨ret_int (by rw [HJ.out]; simp), rfl⟩
                · have HN : Hid (k + 1 ≤ matched ps (trail c0)) := jl_next c0 ps k l h hm HD.out (by have := HL.out; omega) (by have := HT.out; omega) (by rw [HV.out]; omega) (by rw [HV.out]; omega)
                  go_wp2
                  go_round
                  case rel => exact ⟨k + 1, _, _, by omega, by go_num, HN.out, trail_tl c0 (k + 1) (by omega), rfl, rfl⟩
                  case measure => simp [intOf]; omega
          · have hkT : k = 3 := by omega
            have HJ : Hid (jlen (c0 :: ps) = 3 + 1) := by rw [← hkT]; exact jl_stop c0 ps k l h hm HD.out (.inr (.inl (by have := HT.out; omega)))
            subst hkT
            go_wp2
            go_ret
            exact ⟨ret_int (by rw [HJ.out]; simp), rfl⟩
      · have e2 : (c0 == 240) = false := by simpa using e0
        by_cases e4 : c0 = 0xf4
        · have H0 : Hid ((trail c0).getD 0 (128, 191) = (128, 143)) := by show _ = _; rw [trail_f4 c0 e4]; rfl
          have e3 : (c0 == 244) = true := by simpa using e4
          clear e0 e4
          go_enter Try.func33, Try.ntmps33
          go_wp2
          go_loop [5, 6, 7] (fun lo hi n => ∃ (k : Nat) (l h : Int), k ≤ 3 ∧ n = .int .i64 ((k : Int) + 1) ∧ k ≤ matched ps (trail c0) ∧ Hid ((trail c0).getD k (128, 191) = (l, h)) ∧ lo = .int .u8 l ∧ hi = .int .u8 h) (fun _ _ n => 5 - (intOf n).toNat)
          case atStart => exact ⟨0, _, _, by omega, rfl, Nat.zero_le _, H0, rfl, rfl⟩
          case round =>
            obtain ⟨k, l, h, hk, rfl, hm, HD, rfl, rfl⟩ := hrel
            have hml := matched_le_left ps (trail c0)
            have hkp : k + 1 ≤ len := by have := HL.out; omega
            clear hml
            by_cases hk2 : k < 3
            · by_cases hkl : k + 1 = len
              · have hkb : ((k : Int) + 1 == (len : Int)) = true := by simp; omega
                have HJ : Hid (jlen (c0 :: ps) = k + 1) := jl_stop c0 ps k l h hm HD.out (.inl (by have := HL.out; omega))
                clear hkl
                go_wp2
                go_ret
                exact ⟨ret_int (by rw [HJ.out]; simp), rfl⟩
              · have hkb : ((k : Int) + 1 == (len : Int)) = false := by simp; omega
                have hlt : (k : Int) + 1 < (len : Int) := by omega
                obtain ⟨v, HV⟩ : ∃ v, Hid (ps.getD k 0 = v) := ⟨_, rfl⟩
                have hcell : w.cell? ⟨b, off + (k + 1), none⟩ = some (.int .u8 v) := by
                  have := HC.out (k + 1) (by omega)
                  rw [← HV.out]; simpa using this
                clear hkl
                by_cases hv : v < l
                · have HJ : Hid (jlen (c0 :: ps) = k + 1) := jl_stop c0 ps k l h hm HD.out (.inr (.inr (.inl (by rw [HV.out]; exact hv))))
                  go_wp2
                  go_ret
                  exact ⟨ret_int (by rw [HJ.out]; simp), rfl⟩
                · by_cases hu : h < v
                  · have HJ : Hid (jlen (c0 :: ps) = k + 1) := jl_stop c0 ps k l h hm HD.out (.inr (.inr (.inr (by rw [HV.out]; exact hu))))
                    go_wp2
                    go_ret
                    exact ⟨ret_int (by rw [HJ.out]; simp), rfl⟩
                  · have HN : Hid (k + 1 ≤ matched ps (trail c0)) := jl_next c0 ps k l h hm HD.out (by have := HL.out; omega) (by have := HT.out; omega) (by rw [HV.out]; omega) (by rw [HV.out]; omega)
                    go_wp2
                    go_round
                    case rel => exact ⟨k + 1, _, _, by omega, by go_num, HN.out, trail_tl c0 (k + 1) (by omega), rfl, rfl⟩
                    case measure => simp [intOf]; omega
            · have hkT : k = 3 := by omega
              have HJ : Hid (jlen (c0 :: ps) = 3 + 1) := by rw [← hkT]; exact jl_stop c0 ps k l h hm HD.out (.inr (.inl (by have := HT.out; omega)))
              subst hkT
              go_wp2
              go_ret
              exact ⟨ret_int (by rw [HJ.out]; simp), rfl⟩
        · have H0 : Hid ((trail c0).getD 0 (128, 191) = (128, 191)) := by show _ = _; rw [trail_f c0 (by omega)]; rfl
          have e3 : (c0 == 244) = false := by simpa using e4
          clear e0 e4
          go_enter Try.func33, Try.ntmps33
          go_wp2
          go_loop [5, 6, 7] (fun lo hi n => ∃ (k : Nat) (l h : Int), k ≤ 3 ∧ n = .int .i64 ((k : Int) + 1) ∧ k ≤ matched ps (trail c0) ∧ Hid ((trail c0).getD k (128, 191) = (l, h)) ∧ lo = .int .u8 l ∧ hi = .int .u8 h) (fun _ _ n => 5 - (intOf n).toNat)
          case atStart => exact ⟨0, _, _, by omega, rfl, Nat.zero_le _, H0, rfl, rfl⟩
          case round =>
            obtain ⟨k, l, h, hk, rfl, hm, HD, rfl, rfl⟩ := hrel
            have hml := matched_le_left ps (trail c0)
            have hkp : k + 1 ≤ len := by have := HL.out; omega
            clear hml
            by_cases hk2 : k < 3
            · by_cases hkl : k + 1 = len
              · have hkb : ((k : Int) + 1 == (len : Int)) = true := by simp; omega
                have HJ : Hid (jlen (c0 :: ps) = k + 1) := jl_stop c0 ps k l h hm HD.out (.inl (by have := HL.out; omega))
                clear hkl
                go_wp2
                go_ret
                exact ⟨ret_int (by rw [HJ.out]; simp), rfl⟩
              · have hkb : ((k : Int) + 1 == (len : Int)) = false := by simp; omega
                have hlt : (k : Int) + 1 < (len : Int) := by omega
                obtain ⟨v, HV⟩ : ∃ v, Hid (ps.getD k 0 = v) := ⟨_, rfl⟩
                have hcell : w.cell? ⟨b, off + (k + 1), none⟩ = some (.int .u8 v) := by
                  have := HC.out (k + 1) (by omega)
                  rw [← HV.out]; simpa using this
                clear hkl
                by_cases hv : v < l
                · have HJ : Hid (jlen (c0 :: ps) = k + 1) := jl_stop c0 ps k l h hm HD.out (.inr (.inr (.inl (by rw [HV.out]; exact hv))))
                  go_wp2
                  go_ret
                  exact ⟨ret_int (by rw [HJ.out]; simp), rfl⟩
                · by_cases hu : h < v
                  · have HJ : Hid (jlen (c0 :: ps) = k + 1) := jl_stop c0 ps k l h hm HD.out (.inr (.inr (.inr (by rw [HV.out]; exact hu))))
                    go_wp2
                    go_ret
                    exact ⟨ret_int (by rw [HJ.out]; simp), rfl⟩
                  · have HN : Hid (k + 1 ≤ matched ps (trail c0)) := jl_next c0 ps k l h hm HD.out (by have := HL.out; omega) (by have := HT.out; omega) (by rw [HV.out]; omega) (by rw [HV.out]; omega)
                    go_wp2
                    go_round
                    case rel => exact ⟨k + 1, _, _, by omega, by go_num, HN.out, trail_tl c0 (k + 1) (by omega), rfl, rfl⟩
                    case measure => simp [intOf]; omega
            · have hkT : k = 3 := by omega
              have HJ : Hid (jlen (c0 :: ps) = 3 + 1) := by rw [← hkT]; exact jl_stop c0 ps k l h hm HD.out (.inr (.inl (by have := HT.out; omega)))
              subst hkT
              go_wp2
              go_ret
              exact ⟨ret_int (by rw [HJ.out]; simp), rfl⟩
  · have HJ : Hid (jlen (c0 :: ps) = 1) := by
      show jlen (c0 :: ps) = 1
      simp only [jlen, trail_no c0 hn]; cases ps <;> rfl
    by_cases hlt : c0 < 0xe0
    · go_enter Try.func33, Try.ntmps33
      go_wp2
      go_ret
      exact ⟨by rw [HJ.out]; rfl, rfl⟩
    · have hgt : 0xf4 < c0 := by omega
      clear hn
      go_enter Try.func33, Try.ntmps33
      go_wp2
      go_ret
      exact ⟨by rw [HJ.out]; rfl, rfl⟩

end Go.Proofs.Qxb6604322a.Java
