/-
  zzHasID (28), zzIDsOK (23), the shim (27), and the copies at whatever slice.
-/
import Derived.Test.Qxb6604322aRingC
namespace Go.Proofs.Qxb6604322a.Ring
open Go.ChangeShapes Go.WideShapes Go.ChangeAt Go.RowKit Mem
set_option linter.unusedVariables false
set_option linter.unusedSimpArgs false

theorem ret_bool {a b : Bool} (h : a = b) : Ending.returned (.bool a) = .returned (.bool b) := by rw [h]

/-- In an ascending list the places ascend. -/
theorem asc_get (s : List Int) (h : Asc s) (i j : Nat) (hij : i < j) (hj : j < s.length) : s.getD i 0 < s.getD j 0 := by
  induction s generalizing i j with
  | nil => simp at hj
  | cons x xs ih =>
    obtain ⟨j, rfl⟩ : ∃ k, j = k + 1 := ⟨j - 1, by omega⟩
    have hj' : j < xs.length := by simpa using hj
    cases i with
    | zero =>
      have hm : xs.getD j 0 ∈ xs := by simp [hj']
      have := h.1 _ hm
      simpa using this
    | succ i => simpa using ih h.2 i j (by omega) hj'

/-- x is in s just where it stands at some place. -/
theorem mem_place (s : List Int) (x : Int) : x ∈ s ↔ ∃ i, i < s.length ∧ s.getD i 0 = x := by
  constructor
  · intro h
    obtain ⟨i, hi, he⟩ := List.getElem_of_mem h
    exact ⟨i, hi, by simp [hi, he]⟩
  · rintro ⟨i, hi, rfl⟩
    simp [hi]

def has (s : List Int) (x : Int) : Bool := s.contains x

set_option maxRecDepth 100000 in
set_option maxHeartbeats 2000000 in
theorem has_any (v : Value) (s : List Int) (x : Int) (w : World) (hs : RdS (fun _ => True) .i64 w v s) (ha : Asc s) (hl : s.length ≤ 1000000) :
    Calls Try.prog 28 #[v, .int .i64 x] w fun e w' => e = .returned (.bool (has s x)) ∧ w' = w := by
  obtain ⟨p, c, rfl, _, h1⟩ := hs
  obtain ⟨n, HN⟩ : ∃ n, Hid (n = s.length) := ⟨_, rfl⟩
  have hA : ∀ i j, i < j → j < n → s.getD i 0 < s.getD j 0 := fun i j hij hj => asc_get s ha i j hij (by rw [← HN.out]; exact hj)
  have HA := hide2 hA True.intro
  rw [← HN.out] at h1 hl ⊢
  have H1 := hide2 h1 True.intro
  clear h1 hA ha
  go_enter Try.func28, Try.ntmps28
  go_wp2_with fail
  go_loop [5, 6, 7] (fun lo hi _ => ∃ (l h : Nat), l ≤ h ∧ h ≤ n ∧ lo = .int .i64 (l : Int) ∧ hi = .int .i64 (h : Int) ∧ Hid (∀ i, i < n → s.getD i 0 = x → l ≤ i ∧ i < h)) (fun lo hi _ => (intOf hi - intOf lo).toNat)
  case atStart => exact ⟨0, n, Nat.zero_le _, Nat.le_refl _, rfl, rfl, fun i hi _ => ⟨Nat.zero_le _, hi⟩⟩
  case round =>
    obtain ⟨l, h, hlh, hhn, rfl, rfl, HI⟩ := hrel
    by_cases hlt : l < h
    · obtain ⟨b, o, rfl, _, _, hc⟩ := H1.out.1 (by omega)
      obtain ⟨m, hm⟩ : ∃ m, m = l + (h - l) / 2 := ⟨_, rfl⟩
      have m1 : l ≤ m := by omega
      have m2 : m < h := by omega
      obtain ⟨y, HY⟩ : ∃ y, Hid (s.getD m 0 = y) := ⟨_, rfl⟩
      have hcell : w.cell? ⟨b, o + (l + (h - l) / 2), none⟩ = some (.int .i64 y) := by rw [← HY.out, hm]; exact hc _ (by omega)
      have HM := hide2 hm True.intro
      have hn1 : (l : Int) + ((h : Int) - (l : Int)) / 2 < (n : Int) := by omega
      clear hc hm
      by_cases h1 : y = x
      · have h1' : (y == x) = true := by simpa using h1
        have HR : Hid (has s x = true) := by
          show s.contains x = _
          rw [List.contains_iff_mem, mem_place]
          exact ⟨m, by rw [← HN.out]; omega, by rw [HY.out, h1]⟩
        clear h1
        go_wp2
        go_ret
        exact ⟨ret_bool HR.out.symm, rfl⟩
      · have h1' : (y == x) = false := by simpa using h1
        by_cases h2 : y < x
        · have HS : Hid (∀ i, i < n → s.getD i 0 = x → m + 1 ≤ i ∧ i < h) := fun i hi he => by
            have := HI.out i hi he
            refine ⟨?_, this.2⟩
            rcases Nat.lt_or_ge i m with hc | hc
            · have := HA.out.1 i m hc (by omega)
              rw [he, HY.out] at this; omega
            · rcases Nat.eq_or_lt_of_le hc with hc | hc
              · subst hc; rw [HY.out] at he; omega
              · omega
          clear h1
          go_wp2
          go_round
          case rel => exact ⟨m + 1, h, by omega, hhn, by rw [HM.out.1]; go_num, rfl, HS⟩
          case measure => simp [intOf]; omega
        · have HS : Hid (∀ i, i < n → s.getD i 0 = x → l ≤ i ∧ i < m) := fun i hi he => by
            have := HI.out i hi he
            refine ⟨this.1, ?_⟩
            rcases Nat.lt_or_ge i m with hc | hc
            · exact hc
            · rcases Nat.eq_or_lt_of_le hc with hc | hc
              · subst hc; rw [HY.out] at he; omega
              · have := HA.out.1 m i hc hi
                rw [he, HY.out] at this; omega
          clear h1
          go_wp2
          go_round
          case rel => exact ⟨l, m, by omega, by omega, rfl, by rw [HM.out.1]; go_num, HS⟩
          case measure => simp [intOf]; omega
    · have HR : Hid (has s x = false) := by
        show s.contains x = _
        rw [← Bool.not_eq_true, List.contains_iff_mem, mem_place]
        rintro ⟨i, hi, he⟩
        have := HI.out i (by rw [HN.out]; exact hi) he
        omega
      go_wp2
      go_ret
      exact ⟨ret_bool HR.out.symm, rfl⟩

theorem asc_of (s : List Int) (h : ∀ i, i + 1 < s.length → s.getD i 0 < s.getD (i + 1) 0) : Asc s := by
  induction s with
  | nil => trivial
  | cons x xs ih =>
    have ihx := ih (fun i hi => by simpa using h (i + 1) (by simpa using hi))
    refine ⟨fun y hy => ?_, ihx⟩
    cases xs with
    | nil => simp at hy
    | cons z zs =>
      have h0 := h 0 (by simp)
      simp at h0
      rcases List.mem_cons.1 hy with e | e
      · omega
      · have := ihx.1 y e; omega

theorem ids_ok (s : List Int) (h0 : ∀ i, i < s.length → 0 ≤ s.getD i 0) (h1 : ∀ i, 2 ≤ i → i < s.length → s.getD (i - 1) 0 < s.getD i 0) (hm : ∀ x ∈ s, x ≤ 9223372036854775807) : Nn s ∧ Asc s.tail := by
  refine ⟨fun x hx => ⟨?_, hm x hx⟩, asc_of _ (fun i hi => ?_)⟩
  · obtain ⟨i, hi, he⟩ := (mem_place s x).1 hx
    rw [← he]; exact h0 i hi
  · have hl : s.tail.length = s.length - 1 := by simp
    have := h1 (i + 2) (by omega) (by omega)
    simpa using this

/-- The value is a slice: nil, or one that leads somewhere. -/
def Sl (v : Value) : Prop := v = .slice none 0 0 ∨ ∃ x n c, v = .slice (some x) n c

/-- A copy of whatever slice: the new one reads the same and is full. -/
theorem cp64 (v : Value) (zs : List Int) (w : World) (h : RdS (fun _ => True) .u64 w v zs) (hn : v = .slice none 0 0 ∨ ∃ x n c, v = .slice (some x) n c) (hl : zs.length ≤ 1048576) :
    Calls Try.prog 24 #[v] w fun e w' => ∃ v', e = .returned v' ∧ Own .u64 26 w'.heap.size w' v' zs none ∧ Below w.heap.size w w' ∧ Sl v' := by
  rcases hn with rfl | ⟨x, n, c, rfl⟩
  · obtain ⟨a, c', hv, _, _⟩ := h
    have hz : zs = [] := by cases zs with
      | nil => rfl
      | cons _ _ => cases hv
    subst hz
    refine (Copies.u64s_nil w).mono ?_
    rintro e w' ⟨rfl, rfl⟩
    exact ⟨_, rfl, .inl ⟨rfl, .inl ⟨rfl, rfl⟩⟩, Below.refl _ _, .inl rfl⟩
  · obtain ⟨a, c', hv, hc, hp⟩ := h
    cases hv
    refine (Copies.u64s_any x zs.length c zs w hl (fun i hi => ?_)).mono ?_
    · obtain ⟨b, off, ha, _, _, hcell⟩ := hp (by omega)
      cases ha
      rw [add_plain]; exact hcell i hi
    · rintro e w' ⟨rfl, hrow, hb, hs⟩
      refine ⟨_, rfl, .inl ⟨rfl, .inr ⟨_, rfl, fun _ => by simp; omega, fun i hi => ?_⟩⟩, hb, .inr ⟨_, _, _, rfl⟩⟩
      rw [add_plain, Nat.zero_add]
      exact hrow.cell hi

/-- A copy of whatever slice: the new one reads the same and is full. -/
theorem cp32 (v : Value) (zs : List Int) (w : World) (h : RdS (fun _ => True) .u32 w v zs) (hn : v = .slice none 0 0 ∨ ∃ x n c, v = .slice (some x) n c) (hl : zs.length ≤ 1048576) :
    Calls Try.prog 25 #[v] w fun e w' => ∃ v', e = .returned v' ∧ Own .u32 43 w'.heap.size w' v' zs none ∧ Below w.heap.size w w' ∧ Sl v' := by
  rcases hn with rfl | ⟨x, n, c, rfl⟩
  · obtain ⟨a, c', hv, _, _⟩ := h
    have hz : zs = [] := by cases zs with
      | nil => rfl
      | cons _ _ => cases hv
    subst hz
    refine (Copies.u32s_nil w).mono ?_
    rintro e w' ⟨rfl, rfl⟩
    exact ⟨_, rfl, .inl ⟨rfl, .inl ⟨rfl, rfl⟩⟩, Below.refl _ _, .inl rfl⟩
  · obtain ⟨a, c', hv, hc, hp⟩ := h
    cases hv
    refine (Copies.u32s_any x zs.length c zs w hl (fun i hi => ?_)).mono ?_
    · obtain ⟨b, off, ha, _, _, hcell⟩ := hp (by omega)
      cases ha
      rw [add_plain]; exact hcell i hi
    · rintro e w' ⟨rfl, hrow, hb, hs⟩
      refine ⟨_, rfl, .inl ⟨rfl, .inr ⟨_, rfl, fun _ => by simp; omega, fun i hi => ?_⟩⟩, hb, .inr ⟨_, _, _, rfl⟩⟩
      rw [add_plain, Nat.zero_add]
      exact hrow.cell hi

/-- A copy of whatever slice: the new one reads the same and is full. -/
theorem cpI (v : Value) (zs : List Int) (w : World) (h : RdS (fun _ => True) .i64 w v zs) (hn : v = .slice none 0 0 ∨ ∃ x n c, v = .slice (some x) n c) (hl : zs.length ≤ 1048576) :
    Calls Try.prog 26 #[v] w fun e w' => ∃ v', e = .returned v' ∧ Own .i64 3 w'.heap.size w' v' zs none ∧ Below w.heap.size w w' ∧ Sl v' := by
  rcases hn with rfl | ⟨x, n, c, rfl⟩
  · obtain ⟨a, c', hv, _, _⟩ := h
    have hz : zs = [] := by cases zs with
      | nil => rfl
      | cons _ _ => cases hv
    subst hz
    refine (Copies.ints_nil w).mono ?_
    rintro e w' ⟨rfl, rfl⟩
    exact ⟨_, rfl, .inl ⟨rfl, .inl ⟨rfl, rfl⟩⟩, Below.refl _ _, .inl rfl⟩
  · obtain ⟨a, c', hv, hc, hp⟩ := h
    cases hv
    refine (Copies.ints_any x zs.length c zs w hl (fun i hi => ?_)).mono ?_
    · obtain ⟨b, off, ha, _, _, hcell⟩ := hp (by omega)
      cases ha
      rw [add_plain]; exact hcell i hi
    · rintro e w' ⟨rfl, hrow, hb, hs⟩
      refine ⟨_, rfl, .inl ⟨rfl, .inr ⟨_, rfl, fun _ => by simp; omega, fun i hi => ?_⟩⟩, hb, .inr ⟨_, _, _, rfl⟩⟩
      rw [add_plain, Nat.zero_add]
      exact hrow.cell hi

set_option maxRecDepth 100000 in
set_option maxHeartbeats 2000000 in
theorem ids_any (v : Value) (s : List Int) (w : World) (hs : RdS (fun _ => True) .i64 w v s) (hl : s.length ≤ 1000000) (hm : ∀ x ∈ s, x ≤ 9223372036854775807) :
    Calls Try.prog 23 #[v, .bool false] w fun e w' => ∃ b, e = .returned (.bool b) ∧ (b = true → Nn s ∧ Asc s.tail) ∧ ∃ n, w' = w.drewN n := by
  obtain ⟨p, c, rfl, _, h1⟩ := hs
  obtain ⟨n, HN⟩ : ∃ n, Hid (n = s.length) := ⟨_, rfl⟩
  rw [← HN.out] at h1 hl ⊢
  have H1 := hide2 h1 True.intro
  have HMX := hide2 hm True.intro
  clear h1 hm
  go_enter Try.func23, Try.ntmps23
  go_wp2_with fail
  go_loopw [5] (fun t wr => ∃ k : Nat, k ≤ n ∧ t = .int .i64 (k : Int) ∧ Hid (∀ i, i < k → 0 ≤ s.getD i 0) ∧ Hid (∀ i, 2 ≤ i → i < k → s.getD (i - 1) 0 < s.getD i 0) ∧ Hid (∃ q, wr = w.drewN q)) (fun t _ => n - (intOf t).toNat)
  case atStart => exact ⟨0, Nat.zero_le _, rfl, fun i hi => by omega, fun i _ hi => by omega, 0, rfl⟩
  case round =>
    obtain ⟨k, hk, rfl, HP, HQ, HW⟩ := hrel
    by_cases hlt : k < n
    · obtain ⟨b, o, rfl, _, _, hc⟩ := H1.out.1 (by omega)
      obtain ⟨q, hq⟩ := HW.out
      obtain ⟨y, HY⟩ : ∃ y, Hid (s.getD k 0 = y) := ⟨_, rfl⟩
      have k1 : (k : Int) < (n : Int) := by omega
      have x1 : wr.cell? ⟨b, o + k, none⟩ = some (.int .i64 y) := by rw [hq, ← HY.out]; exact hc k hlt
      by_cases hy : y < 0
      · clear hc hq
        go_wp2
        go_ret
        exact ⟨false, rfl, fun h => (by cases h), HW.out⟩
      · have HP1 : Hid (∀ i, i < k + 1 → 0 ≤ s.getD i 0) := fun i hi => by
          by_cases e : i = k
          · rw [e, HY.out]; omega
          · exact HP.out i (by omega)
        by_cases h2 : 2 ≤ k
        · obtain ⟨z, HZ⟩ : ∃ z, Hid (s.getD (k - 1) 0 = z) := ⟨_, rfl⟩
          have x2 : wr.cell? ⟨b, o + (k - 1), none⟩ = some (.int .i64 z) := by rw [hq, ← HZ.out]; exact hc (k - 1) (by omega)
          have k2 : (2 : Int) ≤ (k : Int) := by omega
          have k3 : (k : Int) - 1 < (n : Int) := by omega
          have k4 : (0 : Int) ≤ (k : Int) - 1 := by omega
          clear hc hq
          by_cases hyz : y ≤ z
          · go_wp2_with fail
            go_quiet (fail)
            go_wp2
            go_ret
            obtain ⟨q, hq⟩ := HW.out
            exact ⟨false, rfl, fun h => (by cases h), q + nq, by rw [hq]; simp⟩
          · have HQ1 : Hid (∀ i, 2 ≤ i → i < k + 1 → s.getD (i - 1) 0 < s.getD i 0) := fun i h2 hi => by
              by_cases e : i = k
              · rw [e, HY.out, HZ.out]; omega
              · exact HQ.out i h2 (by omega)
            go_wp2_with fail
            go_quiet (fail)
            go_wp2
            go_roundw
            case rel =>
              obtain ⟨q, hq⟩ := HW.out
              exact ⟨k + 1, by omega, by go_num, HP1, HQ1, q + nq, by rw [hq]; simp⟩
            case measure => simp [intOf]; omega
        · have hd : decide ((2 : Int) ≤ (k : Int)) = false := by simp; omega
          have HQ1 : Hid (∀ i, 2 ≤ i → i < k + 1 → s.getD (i - 1) 0 < s.getD i 0) := fun i h2 hi => by omega
          clear hc hq
          go_wp2_with fail
          go_quiet (fail)
          go_wp2
          go_roundw
          case rel =>
            obtain ⟨q, hq⟩ := HW.out
            exact ⟨k + 1, by omega, by go_num, HP1, HQ1, q + nq, by rw [hq]; simp⟩
          case measure => simp [intOf]; omega
    · have hkn : k = n := by omega
      subst hkn
      go_wp2
      go_ret
      exact ⟨true, rfl, fun _ => ids_ok s (fun i hi => HP.out i (by rw [HN.out]; exact hi)) (fun i h2 hi => HQ.out i h2 (by rw [HN.out]; exact hi)) HMX.out.1, HW.out⟩

end Go.Proofs.Qxb6604322a.Ring
