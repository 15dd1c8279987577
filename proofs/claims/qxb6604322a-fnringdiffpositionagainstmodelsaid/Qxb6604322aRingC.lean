/-
  The small helpers of the law over position: zzExtends64 (29), zzExtends32 (30).
-/
import Derived.Test.Qxb6604322aRingB
namespace Go.Proofs.Qxb6604322a.Ring
open Go.ChangeShapes Go.WideShapes Go.ChangeAt Go.RowKit Mem
set_option linter.unusedVariables false
set_option linter.unusedSimpArgs false

set_option maxRecDepth 100000 in
set_option maxHeartbeats 2000000 in
/-- 'got' is 'old' followed by 'added'. -/
theorem ext64 (got old added : Value) (g o a : List Int) (w : World) (hg : RdS (fun _ => True) .u64 w got g) (ho : RdS (fun _ => True) .u64 w old o) (ha : RdS (fun _ => True) .u64 w added a)
    (he : g = o ++ a) (hl : g.length ≤ 4000000) :
    Calls Try.prog 29 #[got, old, added] w fun e w' => e = .returned (.bool true) ∧ ∃ n, w' = w.drewN n := by
  obtain ⟨p1, c1, rfl, _, h1⟩ := hg
  obtain ⟨p2, c2, rfl, _, h2⟩ := ho
  obtain ⟨p3, c3, rfl, _, h3⟩ := ha
  have hll : g.length = o.length + a.length := by rw [he]; simp
  obtain ⟨n1, HN1⟩ : ∃ n, Hid (n = g.length) := ⟨_, rfl⟩
  obtain ⟨n2, HN2⟩ : ∃ n, Hid (n = o.length) := ⟨_, rfl⟩
  obtain ⟨n3, HN3⟩ : ∃ n, Hid (n = a.length) := ⟨_, rfl⟩
  have go1 : ∀ i, i < n2 → g.getD i 0 = o.getD i 0 := fun i hi => by
    rw [he]; have := HN2.out; simp [List.getElem?_append, show i < o.length from by omega]
  have go2 : ∀ i, i < n3 → g.getD (n2 + i) 0 = a.getD i 0 := fun i hi => by
    rw [he]; have := HN2.out; simp [List.getElem?_append, show ¬ (n2 + i < o.length) from by omega, show n2 + i - o.length = i from by omega]
  rw [← HN1.out] at h1 hl hll
  rw [← HN1.out, ← HN2.out, ← HN3.out]
  rw [← HN2.out] at h2 hll
  rw [← HN3.out] at h3 hll
  have H1 := hide2 h1 (hide2 h2 h3)
  have HE := hide2 go1 go2
  have hnn : ((n1 : Int) != (n2 : Int) + (n3 : Int)) = false := by simp; omega
  have HLL := hide2 hll True.intro
  have b2 : n2 ≤ n1 := by omega
  have b3 : n2 + n3 ≤ n1 := by omega
  clear h1 h2 h3 go1 go2 he hll
  go_enter Try.func29, Try.ntmps29
  go_wp2_with fail
  go_loopw [7] (fun t wr => ∃ k : Nat, k ≤ n2 ∧ t = .int .i64 (k : Int) ∧ Hid (∃ n, wr = w.drewN n)) (fun t _ => n2 - (intOf t).toNat)
  case atStart => exact ⟨0, Nat.zero_le _, rfl, 0, rfl⟩
  case round =>
    obtain ⟨k, hk, rfl, HW⟩ := hrel
    by_cases hlt : k < n2
    · obtain ⟨b1, o1, rfl, _, _, hc1⟩ := H1.out.1 (by omega)
      obtain ⟨b2', o2, rfl, _, _, hc2⟩ := H1.out.2.out.1 (by omega)
      obtain ⟨q, hq⟩ := HW.out
      have k1 : (k : Int) < (n1 : Int) := by omega
      have k2 : (k : Int) < (n2 : Int) := by omega
      obtain ⟨x, hx⟩ : ∃ x, x = g.getD k 0 := ⟨_, rfl⟩
      have x1 : wr.cell? ⟨b1, o1 + k, none⟩ = some (.int .u64 x) := by rw [hq, hx]; exact hc1 k (by omega)
      have x2 : wr.cell? ⟨b2', o2 + k, none⟩ = some (.int .u64 x) := by rw [hq, hx, HE.out.1 k hlt]; exact hc2 k (by omega)
      clear hc1 hc2 hq hx
      go_wp2_with fail
      go_quiet (fail)
      go_wp2
      go_roundw
      case rel =>
        obtain ⟨q, hq⟩ := HW.out
        exact ⟨k + 1, by omega, by go_num, q + nq, by rw [hq]; simp⟩
      case measure => simp [intOf]; omega
    · go_wp2_with fail
      obtain ⟨wo, rfl⟩ : ∃ wo : World, wo = wr := ⟨_, rfl⟩
      go_loopw [8] (fun t wr => ∃ k : Nat, k ≤ n3 ∧ t = .int .i64 (k : Int) ∧ Hid (∃ n, wr = w.drewN n)) (fun t _ => n3 - (intOf t).toNat)
      case atStart => exact ⟨0, Nat.zero_le _, rfl, HW⟩
      case round =>
        obtain ⟨j, hj, rfl, HV⟩ := hrel
        by_cases hlt' : j < n3
        · obtain ⟨b1, o1, rfl, _, _, hc1⟩ := H1.out.1 (by omega)
          obtain ⟨b3', o3, rfl, _, _, hc3⟩ := H1.out.2.out.2 (by omega)
          obtain ⟨q, hq⟩ := HV.out
          have k1 : (n2 : Int) + (j : Int) < (n1 : Int) := by omega
          have k2 : (j : Int) < (n3 : Int) := by omega
          have k3 : (0 : Int) ≤ (n2 : Int) + (j : Int) := by omega
          obtain ⟨x, hx⟩ : ∃ x, x = g.getD (n2 + j) 0 := ⟨_, rfl⟩
          have x1 : wr.cell? ⟨b1, o1 + (n2 + j), none⟩ = some (.int .u64 x) := by rw [hq, hx]; exact hc1 (n2 + j) (by omega)
          have x3 : wr.cell? ⟨b3', o3 + j, none⟩ = some (.int .u64 x) := by rw [hq, hx, HE.out.2 j hlt']; exact hc3 j (by omega)
          clear hc1 hc3 hq hx
          go_wp2_with fail
          go_quiet (fail)
          go_wp2
          go_roundw
          case rel =>
            obtain ⟨q, hq⟩ := HV.out
            exact ⟨j + 1, by omega, by go_num, q + nq, by rw [hq]; simp⟩
          case measure => simp [intOf]; omega
        · go_wp2
          go_ret
          exact ⟨rfl, HV.out⟩

set_option maxRecDepth 100000 in
set_option maxHeartbeats 2000000 in
/-- 'got' is 'old' followed by 'added'. -/
theorem ext32 (got old added : Value) (g o a : List Int) (w : World) (hg : RdS (fun _ => True) .u32 w got g) (ho : RdS (fun _ => True) .u32 w old o) (ha : RdS (fun _ => True) .u32 w added a)
    (he : g = o ++ a) (hl : g.length ≤ 4000000) :
    Calls Try.prog 30 #[got, old, added] w fun e w' => e = .returned (.bool true) ∧ ∃ n, w' = w.drewN n := by
  obtain ⟨p1, c1, rfl, _, h1⟩ := hg
  obtain ⟨p2, c2, rfl, _, h2⟩ := ho
  obtain ⟨p3, c3, rfl, _, h3⟩ := ha
  have hll : g.length = o.length + a.length := by rw [he]; simp
  obtain ⟨n1, HN1⟩ : ∃ n, Hid (n = g.length) := ⟨_, rfl⟩
  obtain ⟨n2, HN2⟩ : ∃ n, Hid (n = o.length) := ⟨_, rfl⟩
  obtain ⟨n3, HN3⟩ : ∃ n, Hid (n = a.length) := ⟨_, rfl⟩
  have go1 : ∀ i, i < n2 → g.getD i 0 = o.getD i 0 := fun i hi => by
    rw [he]; have := HN2.out; simp [List.getElem?_append, show i < o.length from by omega]
  have go2 : ∀ i, i < n3 → g.getD (n2 + i) 0 = a.getD i 0 := fun i hi => by
    rw [he]; have := HN2.out; simp [List.getElem?_append, show ¬ (n2 + i < o.length) from by omega, show n2 + i - o.length = i from by omega]
  rw [← HN1.out] at h1 hl hll
  rw [← HN1.out, ← HN2.out, ← HN3.out]
  rw [← HN2.out] at h2 hll
  rw [← HN3.out] at h3 hll
  have H1 := hide2 h1 (hide2 h2 h3)
  have HE := hide2 go1 go2
  have hnn : ((n1 : Int) != (n2 : Int) + (n3 : Int)) = false := by simp; omega
  have HLL := hide2 hll True.intro
  have b2 : n2 ≤ n1 := by omega
  have b3 : n2 + n3 ≤ n1 := by omega
  clear h1 h2 h3 go1 go2 he hll
  go_enter Try.func30, Try.ntmps30
  go_wp2_with fail
  go_loopw [7] (fun t wr => ∃ k : Nat, k ≤ n2 ∧ t = .int .i64 (k : Int) ∧ Hid (∃ n, wr = w.drewN n)) (fun t _ => n2 - (intOf t).toNat)
  case atStart => exact ⟨0, Nat.zero_le _, rfl, 0, rfl⟩
  case round =>
    obtain ⟨k, hk, rfl, HW⟩ := hrel
    by_cases hlt : k < n2
    · obtain ⟨b1, o1, rfl, _, _, hc1⟩ := H1.out.1 (by omega)
      obtain ⟨b2', o2, rfl, _, _, hc2⟩ := H1.out.2.out.1 (by omega)
      obtain ⟨q, hq⟩ := HW.out
      have k1 : (k : Int) < (n1 : Int) := by omega
      have k2 : (k : Int) < (n2 : Int) := by omega
      obtain ⟨x, hx⟩ : ∃ x, x = g.getD k 0 := ⟨_, rfl⟩
      have x1 : wr.cell? ⟨b1, o1 + k, none⟩ = some (.int .u32 x) := by rw [hq, hx]; exact hc1 k (by omega)
      have x2 : wr.cell? ⟨b2', o2 + k, none⟩ = some (.int .u32 x) := by rw [hq, hx, HE.out.1 k hlt]; exact hc2 k (by omega)
      clear hc1 hc2 hq hx
      go_wp2_with fail
      go_quiet (fail)
      go_wp2
      go_roundw
      case rel =>
        obtain ⟨q, hq⟩ := HW.out
        exact ⟨k + 1, by omega, by go_num, q + nq, by rw [hq]; simp⟩
      case measure => simp [intOf]; omega
    · go_wp2_with fail
      obtain ⟨wo, rfl⟩ : ∃ wo : World, wo = wr := ⟨_, rfl⟩
      go_loopw [8] (fun t wr => ∃ k : Nat, k ≤ n3 ∧ t = .int .i64 (k : Int) ∧ Hid (∃ n, wr = w.drewN n)) (fun t _ => n3 - (intOf t).toNat)
      case atStart => exact ⟨0, Nat.zero_le _, rfl, HW⟩
      case round =>
        obtain ⟨j, hj, rfl, HV⟩ := hrel
        by_cases hlt' : j < n3
        · obtain ⟨b1, o1, rfl, _, _, hc1⟩ := H1.out.1 (by omega)
          obtain ⟨b3', o3, rfl, _, _, hc3⟩ := H1.out.2.out.2 (by omega)
          obtain ⟨q, hq⟩ := HV.out
          have k1 : (n2 : Int) + (j : Int) < (n1 : Int) := by omega
          have k2 : (j : Int) < (n3 : Int) := by omega
          have k3 : (0 : Int) ≤ (n2 : Int) + (j : Int) := by omega
          obtain ⟨x, hx⟩ : ∃ x, x = g.getD (n2 + j) 0 := ⟨_, rfl⟩
          have x1 : wr.cell? ⟨b1, o1 + (n2 + j), none⟩ = some (.int .u32 x) := by rw [hq, hx]; exact hc1 (n2 + j) (by omega)
          have x3 : wr.cell? ⟨b3', o3 + j, none⟩ = some (.int .u32 x) := by rw [hq, hx, HE.out.2 j hlt']; exact hc3 j (by omega)
          clear hc1 hc3 hq hx
          go_wp2_with fail
          go_quiet (fail)
          go_wp2
          go_roundw
          case rel =>
            obtain ⟨q, hq⟩ := HV.out
            exact ⟨j + 1, by omega, by go_num, q + nq, by rw [hq]; simp⟩
          case measure => simp [intOf]; omega
        · go_wp2
          go_ret
          exact ⟨rfl, HV.out⟩

end Go.Proofs.Qxb6604322a.Ring
