/-
  The plain law of the verdicts.
-/
import Derived.Test.Qxb6605226aViewC
import Derived.Test.Qxb6605226aViewE
namespace Go.Proofs.Qxb6605226a.View
open Go.ChangeShapes Go.WideShapes Go.ChangeAt Go.RowKit Mem
set_option linter.unusedVariables false
set_option linter.unusedSimpArgs false

theorem mem_getD {zs : List Int} {y : Int} (h : y ∈ zs) : ∃ j, j < zs.length ∧ zs.getD j 0 = y := by
  obtain ⟨j, hj, rfl⟩ := List.getElem_of_mem h
  exact ⟨j, hj, by simp [hj]⟩
theorem getD_mem {zs : List Int} {j : Nat} (h : j < zs.length) : zs.getD j 0 ∈ zs := by
  have : zs.getD j 0 = zs[j] := by simp [h]
  rw [this]; exact List.getElem_mem h

theorem mem_act {own y : Int} {zs : List Int} : y ∈ act own zs ↔ y ∈ zs ∧ y ≠ own := by
  unfold act sorted others
  rw [List.mem_mergeSort, List.mem_filter]
  simp

theorem up_act (own : Int) (zs : List Int) : Up (act own zs) := by
  have h : (act own zs).Pairwise (fun x y => decide (x ≤ y) = true) := List.pairwise_mergeSort (fun a b c h1 h2 => by simp at h1 h2 ⊢; omega) (fun a b => by simp; omega) _
  intro i j hij hj
  by_cases e : i = j
  · subst e; exact Int.le_refl _
  · have := List.pairwise_iff_getElem.1 h i j (by omega) hj (by omega)
    have hi : i < (act own zs).length := by omega
    have e1 : (act own zs).getD i 0 = (act own zs)[i] := by simp [hi]
    have e2 : (act own zs).getD j 0 = (act own zs)[j] := by simp [hj]
    rw [e1, e2]
    simpa using this

theorem cnt_le (x : Int) (zs : List Int) : cnt x zs ≤ zs.length := List.length_filter_le _ _

theorem cnt_below {x : Int} {zs : List Int} (hu : Up zs) {j : Nat} (h : j < cnt x zs) : zs.getD j 0 < x := by
  have hle := cnt_le x zs
  refine Int.not_le.1 (fun hx => ?_)
  have e : cnt x zs = cnt x (zs.take j) + cnt x (zs.drop j) := by rw [← cnt_append, List.take_append_drop]
  have h2 : cnt x (zs.drop j) = 0 := cnt_none x _ (fun y hy => by
    obtain ⟨k, hk, rfl⟩ := mem_getD hy
    have hk' : k < zs.length - j := by simpa using hk
    have := hu j (j + k) (by omega) (by omega)
    have e2 : (zs.drop j).getD k 0 = zs.getD (j + k) 0 := by simp
    rw [e2]; omega)
  have h3 := cnt_le x (zs.take j)
  rw [List.length_take] at h3
  omega

theorem getD_take (zs : List Int) (i j : Nat) (h : i < j) (hl : i < zs.length) : (zs.take j).getD i 0 = zs.getD i 0 := by
  simp [h]

theorem cnt_above {x : Int} {zs : List Int} (hu : Up zs) {j : Nat} (h : cnt x zs ≤ j) (hj : j < zs.length) : x ≤ zs.getD j 0 := by
  refine Int.not_lt.1 (fun hx => ?_)
  have e : cnt x zs = cnt x (zs.take (j + 1)) + cnt x (zs.drop (j + 1)) := by rw [← cnt_append, List.take_append_drop]
  have h2 : cnt x (zs.take (j + 1)) = (zs.take (j + 1)).length := cnt_all x _ (fun y hy => by
    obtain ⟨k, hk, rfl⟩ := mem_getD hy
    rw [List.length_take] at hk
    rw [getD_take zs k (j + 1) (by omega) (by omega)]
    have := hu k j (by omega) hj
    omega)
  rw [List.length_take] at h2
  omega

theorem found_mem {x : Int} {zs : List Int} (hu : Up zs) : foundB x zs = true ↔ x ∈ zs := by
  unfold foundB
  simp only [Bool.and_eq_true, decide_eq_true_eq, beq_iff_eq]
  constructor
  · rintro ⟨h1, h2⟩
    rw [← h2]; exact getD_mem h1
  · intro h
    obtain ⟨j, hj, rfl⟩ := mem_getD h
    have h1 : cnt (zs.getD j 0) zs ≤ j := by
      refine Nat.le_of_not_lt (fun h => ?_)
      have := cnt_below hu h
      omega
    refine ⟨by omega, ?_⟩
    have h2 := hu _ j h1 hj
    have h3 := cnt_above (x := zs.getD j 0) hu (Nat.le_refl (cnt (zs.getD j 0) zs)) (by omega)
    omega

theorem head_low {own next x : Int} {zs : List Int} : (x < (act own zs).headD next → x ∉ act own zs) ∧ (∀ y, (act own zs).headD next = y → y = next ∧ act own zs = [] ∨ y ∈ act own zs) := by
  have hu := up_act own zs
  cases h : act own zs with
  | nil => exact ⟨fun _ => by simp, fun y hy => .inl ⟨hy.symm, rfl⟩⟩
  | cons a l =>
    rw [h] at hu
    refine ⟨fun hx hm => ?_, fun y hy => .inr ?_⟩
    · obtain ⟨j, hj, rfl⟩ := mem_getD hm
      have h1 := hu 0 j (by omega) hj
      have h2 : (a :: l).getD 0 0 = a := rfl
      have h3 : (a :: l).headD next = a := rfl
      rw [h2] at h1
      rw [h3] at hx
      omega
    · have : a = y := hy
      subst this
      exact List.mem_cons_self

theorem judge_facts (own next x : Int) (zs : List Int) (h : ∀ y ∈ zs, y < next) :
    (x = own ∧ verdict own ((act own zs).headD next) next x (foundB x (act own zs)) = 1) ∨
    (x ≠ own ∧ x < next ∧ x ∉ zs ∧ (verdict own ((act own zs).headD next) next x (foundB x (act own zs)) = 2 ∨ verdict own ((act own zs).headD next) next x (foundB x (act own zs)) = 5)) ∨
    (x ≠ own ∧ next ≤ x ∧ x ∉ zs ∧ verdict own ((act own zs).headD next) next x (foundB x (act own zs)) = 3) ∨
    (x ≠ own ∧ x < next ∧ x ∈ zs ∧ verdict own ((act own zs).headD next) next x (foundB x (act own zs)) = 4) := by
  obtain ⟨l, hl⟩ : ∃ l, l = (act own zs).headD next := ⟨_, rfl⟩
  have hlow := (head_low (own := own) (next := next) (x := x) (zs := zs)).1
  have hlow2 := (head_low (own := own) (next := next) (x := x) (zs := zs)).2 l hl.symm
  rw [← hl] at hlow ⊢
  have hln : l ≤ next := by
    rcases hlow2 with ⟨h1, _⟩ | h1
    · omega
    · have := h l (mem_act.1 h1).1; omega
  unfold verdict
  by_cases h1 : x = own
  · exact .inl ⟨h1, by rw [if_pos h1]⟩
  have hin : x ∈ act own zs ↔ x ∈ zs := by rw [mem_act]; exact ⟨fun h => h.1, fun h => ⟨h, h1⟩⟩
  by_cases h2 : x < l
  · refine .inr (.inl ⟨h1, by omega, fun hm => hlow h2 (hin.2 hm), .inl ?_⟩)
    rw [if_neg h1, if_pos h2]
  by_cases h3 : next ≤ x
  · refine .inr (.inr (.inl ⟨h1, h3, fun hm => ?_, ?_⟩))
    · have := h x hm; omega
    · rw [if_neg h1, if_neg h2, if_pos h3]
  by_cases h4 : x ∈ zs
  · refine .inr (.inr (.inr ⟨h1, by omega, h4, ?_⟩))
    rw [if_neg h1, if_neg h2, if_neg h3, if_pos ((found_mem (up_act own zs)).2 (hin.2 h4))]
  · refine .inr (.inl ⟨h1, by omega, h4, .inr ?_⟩)
    rw [if_neg h1, if_neg h2, if_neg h3, if_neg (fun hf => h4 (hin.1 ((found_mem (up_act own zs)).1 hf)))]

end Go.Proofs.Qxb6605226a.View
