/-
  slices.BinarySearch at uint64 (39), cmp.Less (41), isNaN (42, 43): the walks.
-/
import Derived.Test.Qxb6604322aOwn
import Derived.Test.Qxb6604322aChecked
import Derived.WalkSmall
import Derived.OpenShut
namespace Go.Proofs.Qxb6604322a.Tree
open Go.ChangeShapes Go.WideShapes Go.ChangeAt Go.RowKit Mem
set_option linter.unusedVariables false
set_option linter.unusedSimpArgs false

theorem hide2 {p q : Prop} (h : p) (k : q) : Hid (p ∧ q) := ⟨h, k⟩
theorem ret_int {k : IntKind} {a b : Int} (h : a = b) : Ending.returned (.int k a) = .returned (.int k b) := by rw [h]

/-- How many entries lie below x. -/
def cnt (x : Int) (zs : List Int) : Nat := (zs.filter (fun y => decide (y < x))).length

theorem cnt_nil (x : Int) : cnt x [] = 0 := rfl
theorem cnt_cons (x y : Int) (zs : List Int) : cnt x (y :: zs) = (if y < x then 1 else 0) + cnt x zs := by
  unfold cnt
  rw [List.filter_cons]
  by_cases h : y < x
  · simp [h]; omega
  · simp [h]
theorem cnt_append (x : Int) (a b : List Int) : cnt x (a ++ b) = cnt x a + cnt x b := by
  unfold cnt; rw [List.filter_append, List.length_append]
theorem cnt_all (x : Int) (zs : List Int) (h : ∀ y ∈ zs, y < x) : cnt x zs = zs.length := by
  unfold cnt
  rw [List.filter_eq_self.2]
  intro y hy; simpa using h y hy
theorem cnt_none (x : Int) (zs : List Int) (h : ∀ y ∈ zs, x ≤ y) : cnt x zs = 0 := by
  unfold cnt
  rw [List.filter_eq_nil_iff.2]
  · rfl
  · intro y hy; have := h y hy; simp; omega
/-- The place where the entries stop lying below x is their number. -/
theorem cnt_at (x : Int) (zs : List Int) (i : Nat) (hi : i ≤ zs.length) (h1 : ∀ j, j < i → zs.getD j 0 < x) (h2 : ∀ j, i ≤ j → j < zs.length → x ≤ zs.getD j 0) : cnt x zs = i := by
  rw [← List.take_append_drop i zs, cnt_append, cnt_all x (zs.take i), cnt_none x (zs.drop i)]
  · rw [List.length_take]; omega
  · intro y hy
    obtain ⟨j, hj, rfl⟩ := List.getElem_of_mem hy
    have hj' : j < zs.length - i := by simpa using hj
    have := h2 (i + j) (by omega) (by omega)
    have e : (zs.drop i)[j] = zs.getD (i + j) 0 := by
      rw [List.getElem_drop]; simp [show i + j < zs.length from by omega]
    rw [e]; exact this
  · intro y hy
    obtain ⟨j, hj, rfl⟩ := List.getElem_of_mem hy
    have hj' : j < i ∧ j < zs.length := by rw [List.length_take] at hj; omega
    have := h1 j hj'.1
    have e : (zs.take i)[j] = zs.getD j 0 := by
      rw [List.getElem_take]; simp [hj'.2]
    rw [e]; exact this

theorem nan42 (x : Int) (w : World) : Calls Try.prog 42 #[.int .u64 x] w fun e w' => e = .returned (.bool false) ∧ w' = w := by
  have h : (x != x) = false := by simp
  go_enter Try.func42, Try.ntmps42
  go_wp2
  go_ret
  exact ⟨rfl, rfl⟩
theorem nan43 (x : Int) (w : World) : Calls Try.prog 43 #[.int .u64 x] w fun e w' => e = .returned (.bool false) ∧ w' = w := by
  have h : (x != x) = false := by simp
  go_enter Try.func43, Try.ntmps43
  go_wp2
  go_ret
  exact ⟨rfl, rfl⟩
set_option maxHeartbeats 1000000 in
theorem less41 (x y : Int) (w : World) : Calls Try.prog 41 #[.int .u64 x, .int .u64 y] w fun e w' => e = .returned (.bool (decide (x < y))) ∧ w' = w := by
  go_enter Try.func41, Try.ntmps41
  go_wp2_with (go_at_call 43; refine (nan43 _ _).mono ?_; rintro e w1 ⟨rfl, rfl⟩)
  all_goals
    go_ret
    exact ⟨by simp, rfl⟩

/-- In place: the entries ascend. -/
def Up (zs : List Int) : Prop := ∀ i j, i ≤ j → j < zs.length → zs.getD i 0 ≤ zs.getD j 0

/-- Whether x is there. -/
def foundB (x : Int) (zs : List Int) : Bool := decide (cnt x zs < zs.length) && (zs.getD (cnt x zs) 0 == x)

/-- What BinarySearch hands back: how many entries lie below x, and whether x is there. -/
def BsPost (x : Int) (zs : List Int) (w : World) (e : Ending) (w' : World) : Prop := e = .returned (.tuple #[.int .i64 (cnt x zs : Nat), .bool (foundB x zs)]) ∧ w' = w

set_option maxRecDepth 100000 in
set_option maxHeartbeats 2000000 in
theorem bs_any (v : Value) (zs : List Int) (x : Int) (w : World) (hs : RdS (fun _ => True) .u64 w v zs) (ha : Up zs) (hl : zs.length ≤ 10000000) :
    Calls Try.prog 39 #[v, .int .u64 x] w (BsPost x zs w) := by
  obtain ⟨p, c, rfl, _, h1⟩ := hs
  obtain ⟨n, HN⟩ : ∃ n, Hid (n = zs.length) := ⟨_, rfl⟩
  have HA : Hid (Up zs) := ha
  rw [← HN.out] at h1 hl ⊢
  have H1 := hide2 h1 True.intro
  clear h1 ha
  go_enter Try.func39, Try.ntmps39
  go_wp2_with fail
  go_loop [7, 8, 9] (fun lo hi _ => ∃ (l h : Nat), l ≤ h ∧ h ≤ n ∧ lo = .int .i64 (l : Int) ∧ hi = .int .i64 (h : Int) ∧ Hid ((∀ j, j < l → zs.getD j 0 < x) ∧ ∀ j, h ≤ j → j < n → x ≤ zs.getD j 0)) (fun lo hi _ => (intOf hi - intOf lo).toNat)
  case atStart => exact ⟨0, n, Nat.zero_le _, Nat.le_refl _, rfl, rfl, fun j hj => by omega, fun j h1 h2 => by omega⟩
  case round =>
    obtain ⟨l, h, hlh, hhn, rfl, rfl, HI⟩ := hrel
    by_cases hlt : l < h
    · obtain ⟨b, o, rfl, _, _, hc⟩ := H1.out.1 (by omega)
      obtain ⟨m, hm⟩ : ∃ m, m = (l + h) / 2 := ⟨_, rfl⟩
      have m1 : l ≤ m := by omega
      have m2 : m < h := by omega
      obtain ⟨y, HY⟩ : ∃ y, Hid (zs.getD m 0 = y) := ⟨_, rfl⟩
      have hcell : w.cell? ⟨b, o + (l + h) / 2, none⟩ = some (.int .u64 y) := by rw [← HY.out, hm]; exact hc _ (by omega)
      have HM := hide2 hm True.intro
      have hn1 : ((l : Int) + (h : Int)) / 2 < (n : Int) := by omega
      clear hc hm
      by_cases h2 : y < x
      · have hd : decide (y < x) = true := by simpa using h2
        have HS : Hid ((∀ j, j < m + 1 → zs.getD j 0 < x) ∧ ∀ j, h ≤ j → j < n → x ≤ zs.getD j 0) := by
          refine ⟨fun j hj => ?_, HI.out.2⟩
          have := HA.out j m (by omega) (by rw [← HN.out]; omega)
          rw [HY.out] at this; omega
        go_wp2_with fail
        refine (less41 y x w).mono ?_
        rintro e w1 ⟨rfl, hw1⟩
        have hw2 := hw1.symm
        subst hw2
        clear hw1
        go_wp2
        go_round
        case rel => exact ⟨m + 1, h, by omega, hhn, by rw [HM.out.1]; go_num, rfl, HS⟩
        case measure => simp [intOf]; omega
      · have hd : decide (y < x) = false := by simpa using h2
        have HS : Hid ((∀ j, j < l → zs.getD j 0 < x) ∧ ∀ j, m ≤ j → j < n → x ≤ zs.getD j 0) := by
          refine ⟨HI.out.1, fun j h1 h3 => ?_⟩
          have := HA.out m j h1 (by rw [← HN.out]; exact h3)
          rw [HY.out] at this; omega
        go_wp2_with fail
        refine (less41 y x w).mono ?_
        rintro e w1 ⟨rfl, hw1⟩
        have hw2 := hw1.symm
        subst hw2
        clear hw1
        go_wp2
        go_round
        case rel => exact ⟨l, m, by omega, by omega, rfl, by rw [HM.out.1]; go_num, HS⟩
        case measure => simp [intOf]; omega
    · have HC : Hid (cnt x zs = l) := cnt_at x zs l (by rw [← HN.out]; omega) HI.out.1 (fun j h1 h2 => HI.out.2 j (by omega) (by rw [HN.out]; exact h2))
      by_cases hln : l < n
      · obtain ⟨b, o, rfl, _, _, hc⟩ := H1.out.1 (by omega)
        obtain ⟨y, HY⟩ : ∃ y, Hid (zs.getD l 0 = y) := ⟨_, rfl⟩
        have hcell : w.cell? ⟨b, o + l, none⟩ = some (.int .u64 y) := by rw [← HY.out]; exact hc _ hln
        have hln' : (l : Int) < (n : Int) := by omega
        clear hc
        by_cases hyx : y = x
        · have hb : (y == x) = true := by simpa using hyx
          have HF : Hid (foundB x zs = true) := by show _ = _; unfold foundB; rw [HC.out, HY.out, hb, ← HN.out]; simpa using hln
          clear hyx
          go_wp2
          go_ret2
          exact ⟨by rw [HF.out, HC.out]; rfl, rfl⟩
        · have hb : (y == x) = false := by simpa using hyx
          have HF : Hid (foundB x zs = false) := by show _ = _; unfold foundB; rw [HC.out, HY.out, hb]; simp
          clear hyx
          go_wp2_with fail
          refine (nan42 y w).mono ?_
          rintro e w1 ⟨rfl, hw1⟩
          have hw2 := hw1.symm
          subst hw2
          clear hw1
          go_wp2
          go_ret2
          exact ⟨by rw [HF.out, HC.out]; rfl, rfl⟩
      · have hd : decide ((l : Int) < (n : Int)) = false := by simp; omega
        have HF : Hid (foundB x zs = false) := by
          show _ = _
          unfold foundB
          rw [HC.out, ← HN.out, show decide (l < n) = false from by simpa using hln]
          rfl
        go_wp2
        go_ret2
        exact ⟨by rw [HF.out, HC.out]; rfl, rfl⟩

end Go.Proofs.Qxb6604322a.Tree
