/-
  The arguments of FnPointTreeRankCountsEntriesBelow, opened.
-/
import Derived.Test.Qxb6604322aTreeD
import Derived.Test.Qxb6604322aCopies
import Derived.OpenShut
namespace Go.Proofs.Qxb6604322a.Tree
open Go.ChangeShapes Go.WideShapes Go.ChangeAt Go.RowKit Mem
set_option linter.unusedVariables false
set_option linter.unusedSimpArgs false

section
variable {H : Type} {enc : TypeId × Value → H} {P : Program} {w : World} {base : Nat} {spare : Nat → Bool} {held : Bool} {fuel : Nat} {t e s : TypeId} {cs : List Value} {x : DataW H × List MemPlace}

theorem take_one {cs : List Value} {i : Nat} {v : Value} (h : (cs.drop i).take 1 = [v]) : cs[i]? = some v := by
  have h2 : ((cs.drop i).take 1)[0]? = some v := by rw [h]; rfl
  rw [List.getElem?_take] at h2
  simpa using h2

theorem take_part {cs : List Value} {o m j : Nat} {v : Value} (h : ((cs.drop o).take m)[j]? = some v) : cs[o + j]? = some v := by
  rw [List.getElem?_take] at h
  split at h
  · simpa using h
  · cases h

def numAt (cs : List Value) (i : Nat) : Int :=
  match cs[i]? with
  | some (.int _ z) => z
  | _ => 0

theorem wf_zero (k : IntKind) : (Lit.int k 0).wf = true := by cases k <;> decide

/-- An array of integers, opened. -/
theorem open_nums {n : Nat} {k : IntKind} (ht : P.underlying t = some (.array n e)) (he : P.underlying e = some (.int k)) (hc : P.cellsOf e = 1) (h : DataW.trod enc P w base spare held fuel t cs = some x) :
    ∀ i, i < n → cs[i]? = some (.int k (numAt cs i)) ∧ (Lit.int k (numAt cs i)).wf = true := by
  obtain ⟨xs, m, _, _, _, hl, hf⟩ := DataW.trod_array ht h
  intro i hi
  have h1 := hf i hi
  rw [hc, Nat.mul_one, List.getElem?_eq_getElem (by omega)] at h1
  obtain ⟨z, hz, _, hw⟩ := DataW.trod_int he h1
  have h2 := take_one hz
  have h3 : numAt cs i = z := by unfold numAt; rw [h2]
  rw [h3]
  exact ⟨h2, hw⟩

/-- An array of arrays of integers, opened. -/
theorem open_nums2 {n m : Nat} {k : IntKind} (ht : P.underlying t = some (.array n s)) (hs : P.underlying s = some (.array m e)) (he : P.underlying e = some (.int k)) (hc : P.cellsOf e = 1) (hcs : P.cellsOf s = m) (h : DataW.trod enc P w base spare held fuel t cs = some x) :
    ∀ i j, i < n → j < m → cs[i * m + j]? = some (.int k (numAt cs (i * m + j))) ∧ (Lit.int k (numAt cs (i * m + j))).wf = true := by
  obtain ⟨xs, f, _, _, _, hl, hf⟩ := DataW.trod_array ht h
  intro i j hi hj
  have h1 := hf i hi
  rw [hcs, List.getElem?_eq_getElem (by omega)] at h1
  obtain ⟨h2, h3⟩ := open_nums hs he hc h1 j hj
  have h4 := take_part h2
  have h5 : numAt cs (i * m + j) = numAt ((cs.drop (i * m)).take m) j := by
    conv => lhs; unfold numAt
    rw [h4]
  rw [h5]
  exact ⟨h4, h3⟩

/-- A slice of integers, opened. -/
theorem open_rd {k : IntKind} (ht : P.underlying t = some (.slice e)) (he : P.underlying e = some (.int k)) (hc : P.cellsOf e = 1) (hsp : ∀ b, spare b = true) (h : DataW.trod enc P w base spare held fuel t cs = some x) :
    ∃ v zs, cs = [v] ∧ RdS (fun _ => True) k w v zs ∧ zs.length ≤ 9223372036854775807 := by
  rcases open_ints ht he hc h with ⟨hcs, _⟩ | ⟨a, l, c, zs, hcs, _, hl, hm, hz, _, hcell, hwz⟩
  · exact ⟨_, [], hcs, ⟨none, 0, rfl, by simp, fun h0 => by simp at h0⟩, by simp⟩
  · rw [if_pos (hsp _)] at hz
    have hlen : (zs.take l).length = l := by rw [List.length_take]; omega
    refine ⟨_, zs.take l, hcs, ⟨some a, c, by rw [hlen], by rw [hlen]; exact hl, fun h0 => ?_⟩, by rw [hlen]; unfold maxLen at hm; omega⟩
    rw [hlen] at h0
    obtain ⟨b, off, rfl, hb, hpl⟩ := Copies.plain_row (len := l) (fun i hi => hcell i (by omega)) h0
    refine ⟨b, off, rfl, trivial, hb, fun i hi => ?_⟩
    rw [hlen] at hi
    rw [hpl i hi]
    simp [hi]

/-- An array of slices of integers, opened. -/
theorem open_rds {n : Nat} {k : IntKind} (ht : P.underlying t = some (.array n s)) (hs : P.underlying s = some (.slice e)) (he : P.underlying e = some (.int k)) (hc : P.cellsOf e = 1) (hcs : P.cellsOf s = 1) (hsp : ∀ b, spare b = true) (h : DataW.trod enc P w base spare held fuel t cs = some x) :
    ∀ i, i < n → ∃ v zs, cs[i]? = some v ∧ RdS (fun _ => True) k w v zs ∧ zs.length ≤ 9223372036854775807 := by
  obtain ⟨xs, m, _, _, _, hl, hf⟩ := DataW.trod_array ht h
  intro i hi
  have h1 := hf i hi
  rw [hcs, Nat.mul_one, List.getElem?_eq_getElem (by omega)] at h1
  obtain ⟨v, zs, hv, hr, hz⟩ := open_rd hs he hc hsp h1
  exact ⟨v, zs, take_one hv, hr, hz⟩

/-- An array of arrays of slices of integers, opened. -/
theorem open_rds2 {n m : Nat} {k : IntKind} {r : TypeId} (ht : P.underlying t = some (.array n r)) (hr : P.underlying r = some (.array m s)) (hs : P.underlying s = some (.slice e)) (he : P.underlying e = some (.int k)) (hc : P.cellsOf e = 1) (hcs : P.cellsOf s = 1) (hcr : P.cellsOf r = m) (hsp : ∀ b, spare b = true)
    (h : DataW.trod enc P w base spare held fuel t cs = some x) :
    ∀ i j, i < n → j < m → ∃ v zs, cs[i * m + j]? = some v ∧ RdS (fun _ => True) k w v zs ∧ zs.length ≤ 9223372036854775807 := by
  obtain ⟨xs, f, _, _, _, hl, hf⟩ := DataW.trod_array ht h
  intro i j hi hj
  have h1 := hf i hi
  rw [hcr, List.getElem?_eq_getElem (by omega)] at h1
  obtain ⟨v, zs, hv, hrd, hz⟩ := open_rds hr hs he hc hcs hsp h1 j hj
  exact ⟨v, zs, take_part hv, hrd, hz⟩
end

theorem ints_of {k : IntKind} {A : Array Value} {n : Nat} (hn : A.size = n) (h : ∀ i, i < n → A.toList[i]? = some (.int k (numAt A.toList i)) ∧ (Lit.int k (numAt A.toList i)).wf = true) :
    Ints k A n (numAt A.toList) ∧ ∀ i, (Lit.int k (numAt A.toList i)).wf = true := by
  refine ⟨⟨hn, fun i hi => by simpa using (h i hi).1⟩, fun i => ?_⟩
  by_cases hi : i < n
  · exact (h i hi).2
  · have : numAt A.toList i = 0 := by
      unfold numAt
      rw [List.getElem?_eq_none (by simp; omega)]
    rw [this]; exact wf_zero k

theorem arr_of {w : World} {A : Array Value} {n : Nat} (hn : A.size = n) (h : ∀ i, i < n → ∃ v zs, A.toList[i]? = some v ∧ RdS (fun _ => True) .u64 w v zs ∧ zs.length ≤ 9223372036854775807) :
    ∃ f : Nat → List Int, Arr w A n f ∧ ∀ i, (f i).length ≤ 9223372036854775807 := by
  have h2 : ∀ i, ∃ zs : List Int, (i < n → ∃ v, A[i]? = some v ∧ RdS (fun _ => True) .u64 w v zs) ∧ zs.length ≤ 9223372036854775807 := fun i => by
    by_cases hi : i < n
    · obtain ⟨v, zs, hv, hr, hz⟩ := h i hi
      exact ⟨zs, fun _ => ⟨v, by simpa using hv, hr⟩, hz⟩
    · exact ⟨[], fun h0 => absurd h0 hi, by simp⟩
  obtain ⟨f, hf⟩ := Classical.axiomOfChoice h2
  exact ⟨f, ⟨hn, fun i hi => (hf i).1 hi⟩, fun i => (hf i).2⟩

end Go.Proofs.Qxb6604322a.Tree
