/-
  slices.BinarySearch at TrxID (20), Judge (9): the walks.
-/
import Derived.Test.Qxb6605226aViewA
import Derived.Deep.QuietTactic
namespace Go.Proofs.Qxb6605226a.View
open Go.ChangeShapes Go.WideShapes Go.ChangeAt Go.RowKit Mem
set_option linter.unusedVariables false
set_option linter.unusedSimpArgs false

theorem less_u' (x y : Int) (w : World) : Calls Try.prog 24 #[.int .u64 x, .int .u64 y] w fun e w' => e = .returned (.bool (decide (x < y))) ∧ w' = w := Srt.less_u x y w

/-- How many entries lie below x. -/
def cnt (x : Int) (zs : List Int) : Nat := (zs.filter (fun y => decide (y < x))).length

theorem cnt_nil (x : Int) : cnt x [] = 0 := rfl
theorem cnt_cons (x y : Int) (zs : List Int) : cnt x (y :: zs) = (if y < x then 1 else 0) + cnt x zs := by
  unfold cnt
  rw [List.filter_cons]
  by_cases h : y < x
  · simp [h]; omega
  · simp [h]
theorem cnt_append (x : Int) (a b : List Int) : cnt x (a ++ b) = cnt x a + cnt x b := by
  unfold cnt; rw [List.filter_append, List.length_append]
theorem cnt_all (x : Int) (zs : List Int) (h : ∀ y ∈ zs, y < x) : cnt x zs = zs.length := by
  unfold cnt
  rw [List.filter_eq_self.2]
  intro y hy; simpa using h y hy
theorem cnt_none (x : Int) (zs : List Int) (h : ∀ y ∈ zs, x ≤ y) : cnt x zs = 0 := by
  unfold cnt
  rw [List.filter_eq_nil_iff.2]
  · rfl
  · intro y hy; have := h y hy; simp; omega
/-- The place where the entries stop lying below x is their number. -/
theorem cnt_at (x : Int) (zs : List Int) (i : Nat) (hi : i ≤ zs.length) (h1 : ∀ j, j < i → zs.getD j 0 < x) (h2 : ∀ j, i ≤ j → j < zs.length → x ≤ zs.getD j 0) : cnt x zs = i := by
  rw [← List.take_append_drop i zs, cnt_append, cnt_all x (zs.take i), cnt_none x (zs.drop i)]
  · rw [List.length_take]; omega
  · intro y hy
    obtain ⟨j, hj, rfl⟩ := List.getElem_of_mem hy
    have hj' : j < zs.length - i := by simpa using hj
    have := h2 (i + j) (by omega) (by omega)
    have e : (zs.drop i)[j] = zs.getD (i + j) 0 := by
      rw [List.getElem_drop]; simp [show i + j < zs.length from by omega]
    rw [e]; exact this
  · intro y hy
    obtain ⟨j, hj, rfl⟩ := List.getElem_of_mem hy
    have hj' : j < i ∧ j < zs.length := by rw [List.length_take] at hj; omega
    have := h1 j hj'.1
    have e : (zs.take i)[j] = zs.getD j 0 := by
      rw [List.getElem_take]; simp [hj'.2]
    rw [e]; exact this

/-- In place: the entries ascend. -/
def Up (zs : List Int) : Prop := ∀ i j, i ≤ j → j < zs.length → zs.getD i 0 ≤ zs.getD j 0

/-- Whether x is there. -/
def foundB (x : Int) (zs : List Int) : Bool := decide (cnt x zs < zs.length) && (zs.getD (cnt x zs) 0 == x)

/-- What BinarySearch hands back: how many entries lie below x, and whether x is there. -/
def BsPost (x : Int) (zs : List Int) (w : World) (e : Ending) (w' : World) : Prop := e = .returned (.tuple #[.int .i64 (cnt x zs : Nat), .bool (foundB x zs)]) ∧ w' = w

set_option maxRecDepth 100000 in
set_option maxHeartbeats 2000000 in
theorem bs_any (v : Value) (zs : List Int) (x : Int) (w : World) (hs : RdS (fun _ => True) .u64 w v zs) (ha : Up zs) (hl : zs.length ≤ 10000000) :
    Calls Try.prog 20 #[v, .int .u64 x] w (BsPost x zs w) := by
  obtain ⟨p, c, rfl, _, h1⟩ := hs
  obtain ⟨n, HN⟩ : ∃ n, Hid (n = zs.length) := ⟨_, rfl⟩
  have HA : Hid (Up zs) := ha
  rw [← HN.out] at h1 hl ⊢
  have H1 := hide2 h1 True.intro
  clear h1 ha
  go_enter Try.func20, Try.ntmps20
  go_wp2_with fail
  go_loop [7, 8, 9] (fun lo hi _ => ∃ (l h : Nat), l ≤ h ∧ h ≤ n ∧ lo = .int .i64 (l : Int) ∧ hi = .int .i64 (h : Int) ∧ Hid ((∀ j, j < l → zs.getD j 0 < x) ∧ ∀ j, h ≤ j → j < n → x ≤ zs.getD j 0)) (fun lo hi _ => (intOf hi - intOf lo).toNat)
  case atStart => exact ⟨0, n, Nat.zero_le _, Nat.le_refl _, rfl, rfl, fun j hj => by omega, fun j h1 h2 => by omega⟩
  case round =>
    obtain ⟨l, h, hlh, hhn, rfl, rfl, HI⟩ := hrel
    by_cases hlt : l < h
    · obtain ⟨b, o, rfl, _, _, hc⟩ := H1.out.1 (by omega)
      obtain ⟨m, hm⟩ : ∃ m, m = (l + h) / 2 := ⟨_, rfl⟩
      have m1 : l ≤ m := by omega
      have m2 : m < h := by omega
      obtain ⟨y, HY⟩ : ∃ y, Hid (zs.getD m 0 = y) := ⟨_, rfl⟩
      have hcell : w.cell? ⟨b, o + (l + h) / 2, none⟩ = some (.int .u64 y) := by rw [← HY.out, hm]; exact hc _ (by omega)
      have HM := hide2 hm True.intro
      have hn1 : ((l : Int) + (h : Int)) / 2 < (n : Int) := by omega
      clear hc hm
      by_cases h2 : y < x
      · have hd : decide (y < x) = true := by simpa using h2
        have HS : Hid ((∀ j, j < m + 1 → zs.getD j 0 < x) ∧ ∀ j, h ≤ j → j < n → x ≤ zs.getD j 0) := by
          refine ⟨fun j hj => ?_, HI.out.2⟩
          have := HA.out j m (by omega) (by rw [← HN.out]; omega)
          rw [HY.out] at this; omega
        go_wp2_with fail
        refine (less_u' y x w).mono ?_
        rintro e w1 ⟨rfl, hw1⟩
        have hw2 := hw1.symm
        subst hw2
        clear hw1
        go_wp2
        go_round
        case rel => exact ⟨m + 1, h, by omega, hhn, by rw [HM.out.1]; go_num, rfl, HS⟩
        case measure => simp [intOf]; omega
      · have hd : decide (y < x) = false := by simpa using h2
        have HS : Hid ((∀ j, j < l → zs.getD j 0 < x) ∧ ∀ j, m ≤ j → j < n → x ≤ zs.getD j 0) := by
          refine ⟨HI.out.1, fun j h1 h3 => ?_⟩
          have := HA.out m j h1 (by rw [← HN.out]; exact h3)
          rw [HY.out] at this; omega
        go_wp2_with fail
        refine (less_u' y x w).mono ?_
        rintro e w1 ⟨rfl, hw1⟩
        have hw2 := hw1.symm
        subst hw2
        clear hw1
        go_wp2
        go_round
        case rel => exact ⟨l, m, by omega, by omega, rfl, by rw [HM.out.1]; go_num, HS⟩
        case measure => simp [intOf]; omega
    · have HC : Hid (cnt x zs = l) := cnt_at x zs l (by rw [← HN.out]; omega) HI.out.1 (fun j h1 h2 => HI.out.2 j (by omega) (by rw [HN.out]; exact h2))
      by_cases hln : l < n
      · obtain ⟨b, o, rfl, _, _, hc⟩ := H1.out.1 (by omega)
        obtain ⟨y, HY⟩ : ∃ y, Hid (zs.getD l 0 = y) := ⟨_, rfl⟩
        have hcell : w.cell? ⟨b, o + l, none⟩ = some (.int .u64 y) := by rw [← HY.out]; exact hc _ hln
        have hln' : (l : Int) < (n : Int) := by omega
        clear hc
        by_cases hyx : y = x
        · have hb : (y == x) = true := by simpa using hyx
          have HF : Hid (foundB x zs = true) := by show _ = _; unfold foundB; rw [HC.out, HY.out, hb, ← HN.out]; simpa using hln
          clear hyx
          go_wp2
          go_ret2
          exact ⟨by rw [HF.out, HC.out]; rfl, rfl⟩
        · have hb : (y == x) = false := by simpa using hyx
          have HF : Hid (foundB x zs = false) := by show _ = _; unfold foundB; rw [HC.out, HY.out, hb]; simp
          clear hyx
          go_wp2_with fail
          refine (Srt.nan25 y w).mono ?_
          rintro e w1 ⟨rfl, hw1⟩
          have hw2 := hw1.symm
          subst hw2
          clear hw1
          go_wp2
          go_ret2
          exact ⟨by rw [HF.out, HC.out]; rfl, rfl⟩
      · have hd : decide ((l : Int) < (n : Int)) = false := by simp; omega
        have HF : Hid (foundB x zs = false) := by
          show _ = _
          unfold foundB
          rw [HC.out, ← HN.out, show decide (l < n) = false from by simpa using hln]
          rfl
        go_wp2
        go_ret2
        exact ⟨by rw [HF.out, HC.out]; rfl, rfl⟩



/-- The verdict's number. -/
def verdict (own low next x : Int) (f : Bool) : Int := if x = own then 1 else if x < low then 2 else if next ≤ x then 3 else if f then 4 else 5

set_option maxHeartbeats 2000000 in
set_option maxRecDepth 100000 in
theorem judge_any (own low next x : Int) (v : Value) (zs : List Int) (w : World) (hs : RdS (fun _ => True) .u64 w v zs) (ha : Up zs) (hl : zs.length ≤ 10000000) :
    Calls Try.prog 9 #[.agg #[.int .u64 own, v, .int .u64 low, .int .u64 next], .int .u64 x] w (fun e w' => e = .returned (.int .i64 (verdict own low next x (foundB x zs))) ∧ Below w.heap.size w w') := by
  obtain ⟨W, hW⟩ : ∃ W, W = w.alloc (.cells #[.int .u64 own, v, .int .u64 low, .int .u64 next] 29) := ⟨_, rfl⟩
  have hb : W.heap[w.heap.size]? = some (.cells #[.int .u64 own, v, .int .u64 low, .int .u64 next] 29 (0, 0)) := by rw [hW]; exact heap_alloc_new w _
  have HBW : Hid (Below w.heap.size w W) := by rw [hW]; exact (Below.refl _ _).alloc (Nat.le_refl _) _
  have c0 : W.cell? ⟨w.heap.size, 0, none⟩ = some (.int .u64 own) := by rw [cell_of_row W _ 0 _ 29 (0, 0) hb]; rfl
  have c1 : W.cell? ⟨w.heap.size, 1, none⟩ = some v := by rw [cell_of_row W _ 1 _ 29 (0, 0) hb]; rfl
  have c2 : W.cell? ⟨w.heap.size, 2, none⟩ = some (.int .u64 low) := by rw [cell_of_row W _ 2 _ 29 (0, 0) hb]; rfl
  have c3 : W.cell? ⟨w.heap.size, 3, none⟩ = some (.int .u64 next) := by rw [cell_of_row W _ 3 _ 29 (0, 0) hb]; rfl
  have HR : Hid (RdS (fun _ => True) .u64 W v zs) := hs.kept (fun b _ hlt => HBW.out.block b hlt) HBW.out.size
  have HU := hide2 ha hl
  clear hb hs ha hl
  obtain ⟨f, HF⟩ : ∃ f, Hid (f = foundB x zs) := ⟨_, rfl⟩
  rw [← HF.out]
  obtain ⟨a, c, hv, _⟩ := id HR.out
  obtain ⟨n, HN⟩ : ∃ n, Hid (n = zs.length) := ⟨_, rfl⟩
  rw [← HN.out] at hv
  subst hv
  by_cases h1 : x = own
  · have b1 : (x == own) = true := by simpa using h1
    have HV : Hid (verdict own low next x f = 1) := by show _ = _; unfold verdict; rw [if_pos h1]
    clear h1
    go_enter Try.func9, Try.ntmps9
    go_wp2_with fail
    rw [← hW]
    clear hW
    go_ret
    exact ⟨by rw [HV.out]; rfl, HBW.out⟩
  have b1 : (x == own) = false := by simpa using h1
  by_cases h2 : x < low
  · have b2 : decide (x < low) = true := by simpa using h2
    have HV : Hid (verdict own low next x f = 2) := by show _ = _; unfold verdict; rw [if_neg h1, if_pos h2]
    clear h1 h2
    go_enter Try.func9, Try.ntmps9
    go_wp2_with fail
    rw [← hW]
    clear hW
    go_ret
    exact ⟨by rw [HV.out]; rfl, HBW.out⟩
  have b2 : decide (x < low) = false := by simpa using h2
  by_cases h3 : next ≤ x
  · have b3 : decide (next ≤ x) = true := by simpa using h3
    have HV : Hid (verdict own low next x f = 3) := by show _ = _; unfold verdict; rw [if_neg h1, if_neg h2, if_pos h3]
    clear h1 h2 h3
    go_enter Try.func9, Try.ntmps9
    go_wp2_with fail
    rw [← hW]
    clear hW
    go_ret
    exact ⟨by rw [HV.out]; rfl, HBW.out⟩
  have b3 : decide (next ≤ x) = false := by simpa using h3
  have HV : Hid (verdict own low next x f = if f then 4 else 5) := by show _ = _; unfold verdict; rw [if_neg h1, if_neg h2, if_neg h3]
  clear h1 h2 h3
  go_enter Try.func9, Try.ntmps9
  go_wp2_with fail
  rw [← hW]
  clear hW
  refine (bs_any (.slice a n c) zs x W HR.out HU.out.1 HU.out.2).mono ?_
  rintro e w1 ⟨rfl, hw1⟩
  have hw2 := hw1.symm
  subst hw2
  clear hw1
  rw [← HF.out]
  cases f with
  | true =>
    go_wp2
    go_ret
    exact ⟨by rw [HV.out]; rfl, HBW.out⟩
  | false =>
    go_wp2
    go_ret
    exact ⟨by rw [HV.out]; rfl, HBW.out⟩

end Go.Proofs.Qxb6605226a.View
