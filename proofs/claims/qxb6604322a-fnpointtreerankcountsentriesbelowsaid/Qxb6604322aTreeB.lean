/-
  zzTreeSmall (15): the walk.
-/
import Derived.Test.Qxb6604322aTreeA
namespace Go.Proofs.Qxb6604322a.Tree
open Go.ChangeShapes Go.WideShapes Go.ChangeAt Go.RowKit Mem
set_option linter.unusedVariables false
set_option linter.unusedSimpArgs false

def sumTo (f : Nat → Nat) : Nat → Nat
  | 0 => 0
  | k + 1 => sumTo f k + f k

/-- An array of n slices of uint64, as a value: slice i has the length 'ln i'. -/
def Sls (A : Array Value) (n : Nat) (ln : Nat → Nat) : Prop := A.size = n ∧ ∀ i, i < n → ∃ a c, A[i]? = some (.slice a (ln i) c)

theorem cell_first (w : World) (A B : Array Value) (s t : TypeId) (i : Nat) (v : Value) (h : A[i]? = some v) : ((w.alloc (.cells A s)).alloc (.cells B t)).cell? ⟨w.heap.size, i, none⟩ = some v := by
  have h1 : ((w.alloc (.cells A s)).alloc (.cells B t)).heap[w.heap.size]? = some (.cells A s (0, 0)) := by
    rw [Below.heap_alloc _ _ _ (by simp)]; exact heap_alloc_new w _
  rw [cell_of_row _ _ i A s (0, 0) h1]; exact h
theorem cell_second (w : World) (A B : Array Value) (s t : TypeId) (i : Nat) (v : Value) (h : B[i]? = some v) : ((w.alloc (.cells A s)).alloc (.cells B t)).cell? ⟨w.heap.size + 1, i, none⟩ = some v := by
  have h1 : ((w.alloc (.cells A s)).alloc (.cells B t)).heap[w.heap.size + 1]? = some (.cells B t (0, 0)) := by
    have := heap_alloc_new (w.alloc (.cells A s)) (.cells B t)
    simpa using this
  rw [cell_of_row _ _ i B t (0, 0) h1]; exact h

/-- The number of entries in all. -/
def total (nl : Nat → Nat) (nc : Nat → Nat → Nat) (k : Nat) : Nat := sumTo (fun i => nl i + sumTo (nc i) 16) k

/-- What zzTreeSmall answers. -/
def SmallPost (nl : Nat → Nat) (nc : Nat → Nat → Nat) (w : World) (e : Ending) (w' : World) : Prop := ∃ b, e = .returned (.bool b) ∧ (b = true → total nl nc 16 ≤ 131072) ∧ Below w.heap.size w w'

theorem sumTo_le (f : Nat → Nat) (i j : Nat) (h : i ≤ j) : sumTo f i ≤ sumTo f j := by
  induction j with
  | zero => have : i = 0 := by omega
            subst this; exact Nat.le_refl _
  | succ j ih =>
    by_cases e : i = j + 1
    · subst e; exact Nat.le_refl _
    · have := ih (by omega)
      simp only [sumTo]; omega

set_option maxRecDepth 100000 in
set_option maxHeartbeats 2000000 in
theorem small_any (LV CV : Array Value) (nl : Nat → Nat) (nc : Nat → Nat → Nat) (w : World) (h1 : Sls LV 16 nl) (h2 : Sls CV 256 (fun q => nc (q / 16) (q % 16))) (hb1 : ∀ i, nl i ≤ 9223372036854775807) (hb2 : ∀ i j, nc i j ≤ 9223372036854775807) :
    Calls Try.prog 15 #[.agg LV, .agg CV] w (SmallPost nl nc w) := by
  have G1 : Hid (∀ i, i < 16 → ∃ a c, LV[i]? = some (.slice a (nl i) c)) := h1.2
  have G2 : Hid (∀ i j, i < 16 → j < 16 → ∃ a c, CV[i * 16 + j]? = some (.slice a (nc i j) c)) := fun i j hi hj => by
    have := h2.2 (i * 16 + j) (by omega)
    simp only at this
    rw [show (i * 16 + j) / 16 = i from by omega, show (i * 16 + j) % 16 = j from by omega] at this
    exact this
  have HB := hide2 hb1 hb2
  clear h1 h2 hb1 hb2
  go_enter Try.func15, Try.ntmps15
  go_wp2_with fail
  obtain ⟨W, hW⟩ : ∃ W, W = (w.alloc (.cells LV 30)).alloc (.cells CV 33) := ⟨_, rfl⟩
  have C1 : Hid (∀ i v, LV[i]? = some v → W.cell? ⟨w.heap.size, i, none⟩ = some v) := fun i v h => by rw [hW]; exact cell_first w LV CV 30 33 i v h
  have C2 : Hid (∀ i v, CV[i]? = some v → W.cell? ⟨w.heap.size + 1, i, none⟩ = some v) := fun i v h => by rw [hW]; exact cell_second w LV CV 30 33 i v h
  have HBW : Hid (Below w.heap.size w W) := by show Below _ _ _; rw [hW]; exact ((Below.refl _ _).alloc (Nat.le_refl _) _).alloc (by simp) _
  rw [← hW]
  clear hW
  go_loop [5, 6, 7] (fun s t _ => ∃ (i q : Nat), i ≤ 16 ∧ t = .int .i64 (i : Int) ∧ s = .int .i64 (q : Int) ∧ q ≤ 131072 ∧ Hid (q = total nl nc i)) (fun _ t _ => 16 - (intOf t).toNat)
  case atStart => exact ⟨0, 0, by omega, rfl, rfl, by omega, rfl⟩
  case round =>
    obtain ⟨i, q, hi, rfl, rfl, hq, HQ⟩ := hrel
    by_cases hlt : i < 16
    case neg =>
      have e16 : i = 16 := by omega
      have HF : Hid (total nl nc 16 ≤ 131072) := by show _ ≤ _; rw [← e16, ← HQ.out]; exact hq
      clear e16
      go_wp2
      go_ret
      exact ⟨true, rfl, fun _ => HF.out, HBW.out⟩
    case pos =>
      obtain ⟨a, c, hA⟩ := G1.out i hlt
      obtain ⟨n, Hn⟩ : ∃ n, Hid (nl i = n) := ⟨_, rfl⟩
      rw [Hn.out] at hA
      have hnb : n ≤ 9223372036854775807 := by rw [← Hn.out]; exact HB.out.1 i
      have hc := C1.out i _ hA
      have hlt' : (i : Int) < 16 := by omega
      clear hA
      by_cases hn : n ≤ 131072
      case neg =>
        go_wp2
        go_ret
        exact ⟨false, rfl, (fun h => by cases h), HBW.out⟩
      case pos =>
        by_cases hs : q + n ≤ 131072
        case neg =>
          go_wp2
          go_ret
          exact ⟨false, rfl, (fun h => by cases h), HBW.out⟩
        case pos =>
          go_wp2_with fail
          go_loop [5, 7] (fun s t => ∃ (j r : Nat), j ≤ 16 ∧ t = .int .i64 (j : Int) ∧ s = .int .i64 (r : Int) ∧ r ≤ 131072 ∧ Hid (r = q + n + sumTo (nc i) j)) (fun _ t => 16 - (intOf t).toNat)
          case atStart => exact ⟨0, q + n, by omega, rfl, by go_num, hs, rfl⟩
          case round =>
            obtain ⟨j, r, hj, rfl, rfl, hr, HR⟩ := hrel
            by_cases hjlt : j < 16
            case neg =>
              have e16 : j = 16 := by omega
              have HF : Hid (r = total nl nc (i + 1)) := by
                show _ = _
                rw [HR.out, HQ.out, e16, ← Hn.out]
                unfold total
                simp only [sumTo]
                omega
              clear e16
              go_wp2
              go_round
              case rel => exact ⟨i + 1, r, by omega, by go_num, rfl, hr, HF⟩
              case measure => simp [intOf]; omega
            case pos =>
              obtain ⟨a2, c2, hA2⟩ := G2.out i j hlt hjlt
              obtain ⟨m, Hm⟩ : ∃ n, Hid (nc i j = n) := ⟨_, rfl⟩
              rw [Hm.out] at hA2
              have hmb : m ≤ 9223372036854775807 := by rw [← Hm.out]; exact HB.out.2 i j
              have hc2 := C2.out (i * 16 + j) _ hA2
              have hjlt' : (j : Int) < 16 := by omega
              clear hA2
              by_cases hm : m ≤ 131072
              case neg =>
                go_wp2
                go_ret
                exact ⟨false, rfl, (fun h => by cases h), HBW.out⟩
              case pos =>
                by_cases hs2 : r + m ≤ 131072
                case neg =>
                  go_wp2
                  go_ret
                  exact ⟨false, rfl, (fun h => by cases h), HBW.out⟩
                case pos =>
                  go_wp2
                  go_round
                  case rel => exact ⟨j + 1, r + m, by omega, by go_num, by go_num, hs2, by show _ = _; rw [HR.out, ← Hm.out]; simp only [sumTo]; omega⟩
                  case measure => simp [intOf]; omega

end Go.Proofs.Qxb6604322a.Tree
