/-
  A slice that came in: what the walks want to know of it.
-/
import Derived.Test.Qxb6605226aViewA
namespace Go.Proofs.Qxb6605226a.View
open Go.ChangeShapes Go.WideShapes Go.ChangeAt Go.RowKit Mem
set_option linter.unusedVariables false
set_option linter.unusedSimpArgs false

/-- A row that holds something lies at a plain address. -/
theorem plain_row {w : World} {x : Addr} {len : Nat} {f : Nat → Value} (hc : ∀ i, i < len → w.cell? (x.add i) = some (f i)) (h : 0 < len) :
    ∃ b off, x = ⟨b, off, none⟩ ∧ b < w.heap.size ∧ ∀ i, i < len → w.cell? ⟨b, off + i, none⟩ = some (f i) := by
  obtain ⟨b, off, spot⟩ := x
  have h0 := hc 0 h
  have hspot : spot = none := by simpa [Addr.add] using World.cell?_spot h0
  subst hspot
  have hp : ∀ i, i < len → w.cell? ⟨b, off + i, none⟩ = some (f i) := fun i hi => by rw [← add_plain]; exact hc i hi
  exact ⟨b, off, rfl, World.block_lt_of_cell? _ _ (hp 0 h), hp⟩

theorem row_facts {w : World} {a : Option Addr} {len cap : Nat} {zs : List Int}
    (h : (a = none ∧ len = 0 ∧ cap = 0 ∧ zs = []) ∨ ∃ x, a = some x ∧ len ≤ cap ∧ cap ≤ maxLen ∧ zs.length = cap ∧ (∀ i, i < zs.length → w.cell? (x.add i) = some (.int .u64 (zs.getD i 0))) ∧ ∀ n ∈ zs, (Lit.int .u64 n).wf = true) :
    RdS (fun _ => True) .u64 w (.slice a len cap) (zs.take len) ∧ (zs.take len).length ≤ 9223372036854775807 ∧ (∀ i, 0 ≤ (zs.take len).getD i 0 ∧ (zs.take len).getD i 0 ≤ 18446744073709551615) ∧ (∀ c, Value.slice a len cap = .slice none 0 c → c = 0) := by
  rcases h with ⟨rfl, rfl, rfl, rfl⟩ | ⟨x, rfl, hl, hm, hz, hcell, hwz⟩
  · exact ⟨⟨none, 0, rfl, by simp, fun h0 => by simp at h0⟩, by simp, fun i => by simp, fun c h => by injection h with _ _ h; exact h.symm⟩
  · have hlen : (zs.take len).length = len := by rw [List.length_take]; omega
    refine ⟨⟨some x, cap, by rw [hlen], by rw [hlen]; exact hl, fun h0 => ?_⟩, by rw [hlen]; unfold maxLen at hm; omega, fun i => ?_, fun c h => by injection h with h; cases h⟩
    · rw [hlen] at h0
      obtain ⟨b, off, rfl, hb, hpl⟩ := plain_row (len := len) (fun i hi => hcell i (by omega)) h0
      refine ⟨b, off, rfl, trivial, hb, fun i hi => ?_⟩
      rw [hlen] at hi
      rw [hpl i hi]
      simp [hi]
    · by_cases hi : i < (zs.take len).length
      · have e : (zs.take len).getD i 0 = (zs.take len)[i] := by rw [List.getD_eq_getElem?_getD, List.getElem?_eq_getElem hi]; rfl
        rw [e]
        exact bounds_u64 (hwz _ (List.mem_of_mem_take (List.getElem_mem hi)))
      · have e : (zs.take len).getD i 0 = 0 := by simp [List.getElem?_eq_none (show (zs.take len).length ≤ i by omega)]
        rw [e]; omega

end Go.Proofs.Qxb6605226a.View
