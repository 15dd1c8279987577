/-
  Plain facts on the active list.
-/
import Derived.Test.Qxb6605226aViewF
namespace Go.Proofs.Qxb6605226a.View
open Go.ChangeShapes Go.WideShapes Go.ChangeAt Go.RowKit Mem
set_option linter.unusedVariables false
set_option linter.unusedSimpArgs false

theorem sorted_pairwise (zs : List Int) : (sorted zs).Pairwise (fun x y => decide (x ≤ y) = true) :=
  List.pairwise_mergeSort (fun a b c h1 h2 => by simp at h1 h2 ⊢; omega) (fun a b => by simp; omega) _

theorem sorted_perm (zs : List Int) : (sorted zs).Perm zs := List.mergeSort_perm zs _

/-- A list that ascends is its own sorted list. -/
theorem sorted_unique {xs zs : List Int} (h1 : xs.Pairwise (fun x y => decide (x ≤ y) = true)) (hp : xs.Perm zs) : xs = sorted zs := by
  refine List.Perm.eq_of_pairwise (le := fun a b => decide (a ≤ b) = true) (fun a b _ _ h1 h2 => ?_) h1 (sorted_pairwise zs) (hp.trans (sorted_perm zs).symm)
  simp at h1 h2
  omega

theorem sorted_of_perm {xs zs : List Int} (h : xs.Perm zs) : sorted xs = sorted zs := sorted_unique (sorted_pairwise xs) ((sorted_perm xs).trans h)

/-- own, the entries from the last to the first, own. -/
def around (own : Int) (zs : List Int) : List Int := own :: zs.reverse ++ [own]

theorem others_around (own : Int) (zs : List Int) : (others own (around own zs)).Perm (others own zs) := by
  unfold others around
  rw [List.cons_append, List.filter_cons]
  simp only [beq_self_eq_true, Bool.not_true, Bool.false_eq_true, if_false]
  rw [List.filter_append, List.filter_reverse]
  simp

theorem act_around (own : Int) (zs : List Int) : act own (around own zs) = act own zs := sorted_of_perm (others_around own zs)

/-- wl is the least of ys, or next where there is none. -/
def Low (next : Int) (ys : List Int) (wl : Int) : Prop := (ys = [] → wl = next) ∧ (ys ≠ [] → wl ∈ ys ∧ ∀ z ∈ ys, wl ≤ z)

theorem Low.unique {next : Int} {ys : List Int} {a b : Int} (h1 : Low next ys a) (h2 : Low next ys b) : a = b := by
  by_cases e : ys = []
  · rw [h1.1 e, h2.1 e]
  · have k1 := h1.2 e
    have k2 := h2.2 e
    have e1 := k1.2 b k2.1
    have e2 := k2.2 a k1.1
    omega

theorem low_nil (next : Int) : Low next [] next := ⟨fun _ => rfl, fun h => absurd rfl h⟩

theorem low_take {next y wl : Int} {ys : List Int} (h : Low next ys wl) (hy : ys = [] ∨ y < wl) : Low next (ys ++ [y]) y := by
  refine ⟨fun h0 => by simp at h0, fun _ => ⟨by simp, fun z hz => ?_⟩⟩
  rcases List.mem_append.1 hz with hz | hz
  · rcases hy with rfl | hy
    · cases hz
    · have := (h.2 (by intro e; rw [e] at hz; cases hz)).2 z hz
      omega
  · have : z = y := by simpa using hz
    omega

theorem low_keep {next y wl : Int} {ys : List Int} (h : Low next ys wl) (h0 : ys ≠ []) (hy : ¬ y < wl) : Low next (ys ++ [y]) wl := by
  obtain ⟨h1, h2⟩ := h.2 h0
  refine ⟨fun h0 => by simp at h0, fun _ => ⟨by simp [h1], fun z hz => ?_⟩⟩
  rcases List.mem_append.1 hz with hz | hz
  · exact h2 z hz
  · have : z = y := by simpa using hz
    omega

theorem low_act (own next : Int) (zs : List Int) : Low next (others own zs) ((act own zs).headD next) := by
  have hp : (act own zs).Perm (others own zs) := sorted_perm _
  have hu := up_act own zs
  cases h : act own zs with
  | nil =>
    rw [h] at hp
    have e : others own zs = [] := List.nil_perm.1 hp
    rw [e]
    exact low_nil next
  | cons a l =>
    rw [h] at hp hu
    have hne : others own zs ≠ [] := by
      intro e
      rw [e] at hp
      exact absurd hp.length_eq (by simp)
    refine ⟨fun e => absurd e hne, fun _ => ⟨hp.mem_iff.1 List.mem_cons_self, fun z hz => ?_⟩⟩
    obtain ⟨j, hj, rfl⟩ := mem_getD (hp.mem_iff.2 hz)
    exact hu 0 j (by omega) hj

theorem act_len (own : Int) (zs : List Int) : (act own zs).length = (others own zs).length := sorted_len _

theorem others_step {own : Int} {zs : List Int} {k : Nat} (h : k < zs.length) :
    others own (zs.take (k + 1)) = if zs.getD k 0 = own then others own (zs.take k) else others own (zs.take k) ++ [zs.getD k 0] := by
  have e : zs.take (k + 1) = zs.take k ++ [zs.getD k 0] := by
    rw [List.take_add_one]
    simp [h]
  rw [e]
  unfold others
  rw [List.filter_append]
  by_cases h2 : zs.getD k 0 = own
  · rw [if_pos h2]
    simp only [List.filter_cons, List.filter_nil]
    rw [h2]
    simp
  · rw [if_neg h2]
    congr 1
    simp only [List.filter_cons, List.filter_nil]
    rw [if_pos (by simpa using h2)]

theorem drop_rev {zs : List Int} {k : Nat} (h : k < zs.length) : (zs.drop k).reverse = (zs.drop (k + 1)).reverse ++ [zs.getD k 0] := by
  rw [List.drop_eq_getElem_cons h, List.reverse_cons]
  congr 2
  simp [h]

end Go.Proofs.Qxb6605226a.View
