/-
  The plain law of the tree's rank.
-/
import Derived.Test.Qxb6604322aTreeH
namespace Go.Proofs.Qxb6604322a.Tree
open Go.ChangeShapes Go.WideShapes Go.ChangeAt Go.RowKit Mem
set_option linter.unusedVariables false
set_option linter.unusedSimpArgs false

theorem getD_take (zs : List Int) (i j : Nat) (h : i < j) (hl : i < zs.length) : (zs.take j).getD i 0 = zs.getD i 0 := by
  simp [h]

theorem mem_getD {zs : List Int} {y : Int} (h : y ∈ zs) : ∃ j, j < zs.length ∧ zs.getD j 0 = y := by
  obtain ⟨j, hj, rfl⟩ := List.getElem_of_mem h
  exact ⟨j, hj, by simp [hj]⟩
theorem getD_mem {zs : List Int} {j : Nat} (h : j < zs.length) : zs.getD j 0 ∈ zs := by
  have : zs.getD j 0 = zs[j] := by simp [h]
  rw [this]; exact List.getElem_mem h

theorem cnt_below {x : Int} {zs : List Int} (hu : Up zs) {j : Nat} (h : j < cnt x zs) : zs.getD j 0 < x := by
  have hle := cnt_le x zs
  refine Int.not_le.1 (fun hx => ?_)
  have e : cnt x zs = cnt x (zs.take j) + cnt x (zs.drop j) := by rw [← cnt_append, List.take_append_drop]
  have h2 : cnt x (zs.drop j) = 0 := cnt_none x _ (fun y hy => by
    obtain ⟨k, hk, rfl⟩ := mem_getD hy
    have hk' : k < zs.length - j := by simpa using hk
    have := hu j (j + k) (by omega) (by omega)
    have e2 : (zs.drop j).getD k 0 = zs.getD (j + k) 0 := by simp
    rw [e2]; omega)
  have h3 := cnt_le x (zs.take j)
  rw [List.length_take] at h3
  omega
theorem cnt_above {x : Int} {zs : List Int} (hu : Up zs) {j : Nat} (h : cnt x zs ≤ j) (hj : j < zs.length) : x ≤ zs.getD j 0 := by
  refine Int.not_lt.1 (fun hx => ?_)
  have e : cnt x zs = cnt x (zs.take (j + 1)) + cnt x (zs.drop (j + 1)) := by rw [← cnt_append, List.take_append_drop]
  have h2 : cnt x (zs.take (j + 1)) = (zs.take (j + 1)).length := cnt_all x _ (fun y hy => by
    obtain ⟨k, hk, rfl⟩ := mem_getD hy
    rw [List.length_take] at hk
    rw [getD_take zs k (j + 1) (by omega) (by omega)]
    have := hu k j (by omega) hj
    omega)
  rw [List.length_take] at h2
  omega

theorem cnt_flat (x : Int) (f : Nat → List Int) (n : Nat) : cnt x (flatTo f n) = sumTo (fun i => cnt x (f i)) n := by
  induction n with
  | zero => rfl
  | succ n ih => rw [flatTo, cnt_append, ih]; rfl

theorem sumTo_congr (f g : Nat → Nat) (k : Nat) (h : ∀ i, i < k → f i = g i) : sumTo f k = sumTo g k := by
  induction k with
  | zero => rfl
  | succ k ih => simp only [sumTo]; rw [ih (fun i hi => h i (by omega)), h k (by omega)]

/-- A sum whose terms vanish behind place i. -/
theorem sumTo_split (g l : Nat → Nat) (i n : Nat) (hi : i ≤ n) (h1 : ∀ q, q < i → g q = l q) (h2 : ∀ q, i < q → q < n → g q = 0) :
    sumTo g n = sumTo l i + (if i < n then g i else 0) := by
  induction n with
  | zero =>
    have : i = 0 := by omega
    subst this; rfl
  | succ n ih =>
    by_cases e : i = n + 1
    · subst e
      rw [sumTo_congr g l (n + 1) h1, if_neg (by omega)]; rfl
    · have := ih (by omega) (fun q h3 h4 => h2 q h3 (by omega))
      simp only [sumTo]
      rw [this]
      by_cases e2 : i = n
      · subst e2
        rw [if_neg (by omega), if_pos (by omega)]; omega
      · rw [if_pos (by omega), if_pos (by omega), h2 n (by omega) (by omega)]; rfl

theorem getD_right (a b : List Int) (i : Nat) : (a ++ b).getD (a.length + i) 0 = b.getD i 0 := by
  rw [List.getD_eq_getElem?_getD, List.getD_eq_getElem?_getD, List.getElem?_append_right (by omega)]
  congr 2
  omega

theorem up_append {a b : List Int} (h : Up (a ++ b)) : Up a ∧ Up b ∧ ∀ y ∈ a, ∀ z ∈ b, y ≤ z := by
  refine ⟨fun i j hij hj => ?_, fun i j hij hj => ?_, fun y hy z hz => ?_⟩
  · have := h i j hij (by rw [List.length_append]; omega)
    have e1 : (a ++ b).getD i 0 = a.getD i 0 := by simp [List.getElem?_append_left (show i < a.length from by omega)]
    have e2 : (a ++ b).getD j 0 = a.getD j 0 := by simp [List.getElem?_append_left hj]
    rw [e1, e2] at this; exact this
  · have := h (a.length + i) (a.length + j) (by omega) (by rw [List.length_append]; omega)
    have e1 := getD_right a b i
    have e2 := getD_right a b j
    rw [e1, e2] at this; exact this
  · obtain ⟨i, hi, rfl⟩ := mem_getD hy
    obtain ⟨j, hj, rfl⟩ := mem_getD hz
    have := h i (a.length + j) (by omega) (by rw [List.length_append]; omega)
    have e1 : (a ++ b).getD i 0 = a.getD i 0 := by simp [List.getElem?_append_left hi]
    have e2 := getD_right a b j
    rw [e1, e2] at this; exact this

theorem mem_flat {f : Nat → List Int} {n i : Nat} {y : Int} (hi : i < n) (hy : y ∈ f i) : y ∈ flatTo f n := by
  induction n with
  | zero => omega
  | succ n ih =>
    rw [flatTo, List.mem_append]
    by_cases e : i = n
    · subst e; exact .inr hy
    · exact .inl (ih (by omega))

theorem up_flat {f : Nat → List Int} {n : Nat} (h : Up (flatTo f n)) : (∀ i, i < n → Up (f i)) ∧ ∀ i j, i < j → j < n → ∀ y ∈ f i, ∀ z ∈ f j, y ≤ z := by
  induction n with
  | zero => exact ⟨fun i hi => by omega, fun i j _ hj => by omega⟩
  | succ n ih =>
    obtain ⟨h1, h2, h3⟩ := up_append h
    obtain ⟨g1, g2⟩ := ih h1
    refine ⟨fun i hi => ?_, fun i j hij hj y hy z hz => ?_⟩
    · by_cases e : i = n
      · subst e; exact h2
      · exact g1 i (by omega)
    · by_cases e : j = n
      · subst e; exact h3 y (mem_flat hij hy) z hz
      · exact g2 i j hij (by omega) y hy z hz

theorem leaf_mem {zs : List Int} {l : Int} (h : Leaf zs l) : l ∈ zs := by
  rw [← h.2]; exact getD_mem (by have := h.1; omega)
theorem leaf_max {zs : List Int} {l : Int} (h : Leaf zs l) (hu : Up zs) : ∀ y ∈ zs, y ≤ l := fun y hy => by
  obtain ⟨j, hj, rfl⟩ := mem_getD hy
  rw [← h.2]; exact hu j _ (by omega) (by have := h.1; omega)

/-- THE LAW: under a node whose parts end in la, the rank is what the node reckons. -/
theorem flat_rank {f : Nat → List Int} {la : Nat → Int} {n : Nat} (hl : ∀ i, i < n → Leaf (f i) (la i)) (hu : Up (flatTo f n)) :
    Up (firsts la n) ∧ (∀ i, i < n → Up (f i)) ∧ ∀ x, cnt x (flatTo f n) = sumTo (fun i => (f i).length) (cnt x (firsts la n)) + (if cnt x (firsts la n) < n then cnt x (f (cnt x (firsts la n))) else 0) := by
  obtain ⟨g1, g2⟩ := up_flat hu
  have gu : Up (firsts la n) := fun i j hij hj => by
    rw [firsts_len] at hj
    rw [firsts_at la n i (by omega), firsts_at la n j hj]
    by_cases e : i = j
    · subst e; exact Int.le_refl _
    · exact g2 i j (by omega) hj _ (leaf_mem (hl i (by omega))) _ (leaf_mem (hl j hj))
  refine ⟨gu, g1, fun x => ?_⟩
  have hi : cnt x (firsts la n) ≤ n := by have := cnt_le x (firsts la n); rw [firsts_len] at this; exact this
  rw [cnt_flat]
  refine sumTo_split _ _ _ _ hi (fun q hq => ?_) (fun q hq hqn => ?_)
  · refine cnt_all x _ (fun y hy => ?_)
    have h1 := cnt_below gu hq
    rw [firsts_at la n q (by omega)] at h1
    have h2 := leaf_max (hl q (by omega)) (g1 q (by omega)) y hy
    omega
  · refine cnt_none x _ (fun y hy => ?_)
    have h1 := cnt_above gu (Nat.le_refl (cnt x (firsts la n))) (by rw [firsts_len]; omega)
    rw [firsts_at la n _ (by omega)] at h1
    have h2 := g2 _ q hq hqn _ (leaf_mem (hl _ (by omega))) y hy
    omega

theorem leaf_flat {f : Nat → List Int} {l : Nat → Int} {J : Nat} (h1 : 1 ≤ J) (hl : ∀ j, j < J → Leaf (f j) (l j)) : Leaf (flatTo f J) (l (J - 1)) := by
  obtain ⟨k, rfl⟩ : ∃ k, J = k + 1 := ⟨J - 1, by omega⟩
  obtain ⟨h2, h3⟩ := hl k (by omega)
  have e : (flatTo f (k + 1)).length = (flatTo f k).length + (f k).length := by rw [flatTo, List.length_append]
  refine ⟨by omega, ?_⟩
  rw [e, flatTo, show (flatTo f k).length + (f k).length - 1 = (flatTo f k).length + ((f k).length - 1) from by omega]
  rw [show k + 1 - 1 = k from rfl, ← h3]
  exact getD_right _ _ _

theorem law_plain (n : Nat) (low : Bool) (la co : Nat → Int) (L : Nat → List Int) (cs : Nat → Int) (cl : Nat → Nat → Int) (C : Nat → Nat → List Int) (x : Int) (hn : n ≤ 16)
    (hk : ∀ i, i < n → Kid low la co L cs cl C i) (hu : Up (ents low L cs C n)) (ht : total (fun i => (L i).length) (fun i j => (C i j).length) 16 ≤ 131072) :
    (low = true ∧ LowOk n la L ∧ cnt x (ents low L cs C n) = lowRank x n la L) ∨ (low = false ∧ n ≤ 16 ∧ Up (firsts la n) ∧ ∃ cn J : Nat → Nat, sumTo cn n ≤ 131072 ∧ (∀ i, i < n → co i = (cn i : Int) ∧ cs i = (J i : Int) ∧ LowOk (J i) (cl i) (C i)) ∧ cnt x (ents low L cs C n) = highRank x n la cn J cl C) := by
  cases low with
  | true =>
    have hp : part true L cs C = L := rfl
    unfold ents at hu ⊢
    rw [hp] at hu ⊢
    obtain ⟨g1, g2, g3⟩ := flat_rank (f := L) (la := la) (n := n) (fun i hi => hk i hi) hu
    refine .inl ⟨rfl, ⟨hn, g1, g2, ?_⟩, g3 x⟩
    refine Nat.le_trans (sumTo_mono _ (fun i => (L i).length + sumTo (fun j => (C i j).length) 16) 16 (fun i _ => by omega)) ht
  | false =>
    have hcs : ∀ i, i < n → cs i ≤ 16 := fun i hi => by obtain ⟨J, h1, h2, h3, _⟩ := hk i hi; omega
    have hlen := Nat.le_trans (ents_le false L cs C n hn (fun _ => hcs)) ht
    have hp : ∀ i, i < n → Leaf (part false L cs C i) (la i) := fun i hi => by
      obtain ⟨J, h1, h2, h3, h4, h5, h6⟩ := hk i hi
      show Leaf (flatTo (C i) (cs i).toNat) (la i)
      rw [show (cs i).toNat = J from by omega, ← h5]
      exact leaf_flat h2 h4
    unfold ents at hu hlen ⊢
    obtain ⟨g1, g2, g3⟩ := flat_rank hp hu
    have hin : ∀ i, i < n → LowOk (cs i).toNat (cl i) (C i) ∧ cnt x (part false L cs C i) = lowRank x (cs i).toNat (cl i) (C i) ∧ co i = ((part false L cs C i).length : Int) := fun i hi => by
      obtain ⟨J, h1, h2, h3, h4, h5, h6⟩ := hk i hi
      have hu2 : Up (flatTo (C i) (cs i).toNat) := g2 i hi
      have e : (cs i).toNat = J := by omega
      show LowOk (cs i).toNat (cl i) (C i) ∧ cnt x (flatTo (C i) (cs i).toNat) = lowRank x (cs i).toNat (cl i) (C i) ∧ co i = ((flatTo (C i) (cs i).toNat).length : Int)
      rw [e] at hu2 ⊢
      obtain ⟨k1, k2, k3⟩ := flat_rank h4 hu2
      refine ⟨⟨h3, k1, k2, ?_⟩, k3 x, ?_⟩
      · exact Nat.le_trans (child_le L C i 0 (by omega) (by omega)) ht
      · rw [h6, flatTo_len]
    refine .inr ⟨rfl, hn, g1, fun i => (part false L cs C i).length, fun i => (cs i).toNat, ?_, fun i hi => ⟨(hin i hi).2.2, ?_, (hin i hi).1⟩, ?_⟩
    · rw [flatTo_len] at hlen; exact hlen
    · obtain ⟨J, h1, _⟩ := hk i hi
      show cs i = ((cs i).toNat : Int)
      omega
    · rw [g3 x]
      unfold highRank
      by_cases e : cnt x (firsts la n) < n
      · rw [if_pos e, if_pos e, (hin _ e).2.1]
      · rw [if_neg e, if_neg e]

end Go.Proofs.Qxb6604322a.Tree
