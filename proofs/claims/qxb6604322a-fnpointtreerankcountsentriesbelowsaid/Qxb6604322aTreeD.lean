/-
  zzTreeEntries (19): the walk.
-/
import Derived.Test.Qxb6604322aTreeC
namespace Go.Proofs.Qxb6604322a.Tree
open Go.ChangeShapes Go.WideShapes Go.ChangeAt Go.RowKit Mem
set_option linter.unusedVariables false
set_option linter.unusedSimpArgs false

/-- An array of n slices of uint64: slice i reads as 'f i'. -/
def Arr (w : World) (A : Array Value) (n : Nat) (f : Nat → List Int) : Prop := A.size = n ∧ ∀ i, i < n → ∃ v, A[i]? = some v ∧ RdS (fun _ => True) .u64 w v (f i)

/-- An array of n integers. -/
def Ints (k : IntKind) (A : Array Value) (n : Nat) (f : Nat → Int) : Prop := A.size = n ∧ ∀ i, i < n → A[i]? = some (.int k (f i))

theorem Arr.sls {w : World} {A : Array Value} {n : Nat} {f : Nat → List Int} (h : Arr w A n f) : Sls A n (fun i => (f i).length) :=
  ⟨h.1, fun i hi => by
    obtain ⟨v, hv, a, c, rfl, _⟩ := h.2 i hi
    exact ⟨a, c, hv⟩⟩

theorem cell_lt {w : World} {a : Addr} {v : Value} (h : w.cell? a = some v) : a.block < w.heap.size := by
  unfold World.cell? at h
  split at h
  · rename_i heq
    exact (Array.getElem?_eq_some_iff.1 heq).1
  all_goals cases h

theorem below_cell {W wr : World} {a : Addr} {v : Value} (h : Below W.heap.size W wr) (hc : W.cell? a = some v) : wr.cell? a = some v :=
  (h.cell (cell_lt hc)).trans hc

theorem RdS.below {k : IntKind} {w w' : World} {v : Value} {zs : List Int} (h : RdS (fun _ => True) k w v zs) (hb : Below w.heap.size w w') : RdS (fun _ => True) k w' v zs :=
  h.kept (fun b _ hlt => hb.block b hlt) hb.size

theorem Arr.below {w w' : World} {A : Array Value} {n : Nat} {f : Nat → List Int} (h : Arr w A n f) (hb : Below w.heap.size w w') : Arr w' A n f :=
  ⟨h.1, fun i hi => by
    obtain ⟨v, hv, hr⟩ := h.2 i hi
    exact ⟨v, hv, RdS.below hr hb⟩⟩

def flatTo (f : Nat → List Int) : Nat → List Int
  | 0 => []
  | k + 1 => flatTo f k ++ f k

/-- What lies under the root's child i. -/
def part (low : Bool) (L : Nat → List Int) (cs : Nat → Int) (C : Nat → Nat → List Int) (i : Nat) : List Int :=
  if low then L i else flatTo (C i) (cs i).toNat

/-- The entries, in the tree's order. -/
def ents (low : Bool) (L : Nat → List Int) (cs : Nat → Int) (C : Nat → Nat → List Int) (n : Nat) : List Int := flatTo (part low L cs C) n

theorem flatTo_len (f : Nat → List Int) (k : Nat) : (flatTo f k).length = sumTo (fun i => (f i).length) k := by
  induction k with
  | zero => rfl
  | succ k ih => simp [flatTo, sumTo, ih]

theorem flatTo_le (f : Nat → List Int) {i j : Nat} (h : i ≤ j) : (flatTo f i).length ≤ (flatTo f j).length := by
  rw [flatTo_len, flatTo_len]; exact sumTo_le _ i j h

theorem flatTo_step (f : Nat → List Int) {i j : Nat} (h : i < j) : (flatTo f i).length + (f i).length ≤ (flatTo f j).length := by
  have := flatTo_le f (show i + 1 ≤ j from h)
  simp [flatTo] at this
  omega

/-- What zzTreeEntries answers. -/
def EntsPost (zs : List Int) (w : World) (e : Ending) (w' : World) : Prop := ∃ v, e = .returned v ∧ RdS (fun _ => True) .u64 w' v zs ∧ Below w.heap.size w w'

/-- The heart of the loop: what has been gathered, in which world. -/
def Got (W wr : World) (u : Value) (zs : List Int) (row : Option Nat) : Prop := Own .u64 26 W.heap.size wr u zs row ∧ Below W.heap.size W wr

theorem Got.step {W wr w1 w2 : World} {u v' : Value} {zs zs' : List Int} {row : Option Nat} {g : Nat} (h : Got W wr u zs row) (hW : wr.grownBy w1 none)
    (hown2 : Own .u64 26 W.heap.size w2 v' zs' (some g)) (hgrow2 : w1.grownBy w2 row) : Got W w2 v' zs' (some g) :=
  ⟨hown2, (h.2.grown hW h.2.size (fun k hk => by cases hk)).grown hgrow2 (Nat.le_trans h.2.size hW.size) (fun k hk => (h.1.low k hk).1)⟩

theorem uinfo26 : (Try.prog.info? 26).map (fun i => (i.zero, i.size, i.bytes)) = some (some (.int .u64 0), 1, 8) := by kernel_rfl
theorem under29 : Try.prog.underlying 29 = some (.slice 26) := by kernel_rfl

theorem take_push (zs : List Int) (k : Nat) (h : k < zs.length) (pre : List Int) : pre ++ zs.take k ++ [zs.getD k 0] = pre ++ zs.take (k + 1) := by
  rw [List.append_assoc]
  congr 1
  rw [List.take_add_one]
  simp [h]

set_option maxRecDepth 100000 in
set_option maxHeartbeats 4000000 in
theorem ents_any (n : Nat) (low : Bool) (LV SV CV : Array Value) (L : Nat → List Int) (cs : Nat → Int) (C : Nat → Nat → List Int) (w : World) (hn : n ≤ 16) (h1 : Arr w LV 16 L) (h2 : Ints .i64 SV 16 cs) (h3 : Arr w CV 256 (fun q => C (q / 16) (q % 16)))
    (hcs : low = false → ∀ i, i < n → 0 ≤ cs i ∧ cs i ≤ 16) (hl : (ents low L cs C n).length ≤ 200000) :
    Calls Try.prog 19 #[.int .i64 (n : Int), .bool low, .agg LV, .agg SV, .agg CV] w (EntsPost (ents low L cs C n) w) := by
  go_enter Try.func19, Try.ntmps19
  go_wp2_with fail
  obtain ⟨W, hW⟩ : ∃ W, W = boxAll w [(LV, 30), (SV, 31), (CV, 33)] := ⟨_, rfl⟩
  have HBW : Hid (Below w.heap.size w W) := by show Below _ _ _; rw [hW]; exact boxAll_below _ w
  have C1 : Hid (∀ i, i < 16 → ∃ v, W.cell? ⟨w.heap.size, i, none⟩ = some v ∧ RdS (fun _ => True) .u64 W v (L i)) := fun i hi => by
    obtain ⟨v, hv, hr⟩ := h1.2 i hi
    exact ⟨v, by rw [hW]; exact boxAll_cell _ w 0 i LV 30 v rfl hv, RdS.below hr HBW.out⟩
  have C2 : Hid (∀ i, i < 16 → W.cell? ⟨w.heap.size + 1, i, none⟩ = some (.int .i64 (cs i))) := fun i hi => by
    rw [hW]; exact boxAll_cell _ w 1 i SV 31 _ rfl (h2.2 i hi)
  have C3 : Hid (∀ i j, i < 16 → j < 16 → ∃ v, W.cell? ⟨w.heap.size + 2, i * 16 + j, none⟩ = some v ∧ RdS (fun _ => True) .u64 W v (C i j)) := fun i j hi hj => by
    obtain ⟨v, hv, hr⟩ := h3.2 (i * 16 + j) (by omega)
    simp only at hr
    rw [show (i * 16 + j) / 16 = i from by omega, show (i * 16 + j) % 16 = j from by omega] at hr
    exact ⟨v, by rw [hW]; exact boxAll_cell _ w 2 _ CV 33 v rfl hv, RdS.below hr HBW.out⟩
  have HCS := hide2 hcs hl
  simp only [boxAll] at hW
  rw [← hW]
  clear hW h1 h2 h3 hcs hl
  cases low with
  | true =>
    go_loopw [11, 12, 13, 14, 15] (fun o t _ _ _ wr => ∃ (i : Nat) (row : Option Nat), i ≤ n ∧ t = .int .i64 (i : Int) ∧ Hid (Got W wr o (ents true L cs C i) row)) (fun _ t _ _ _ _ => n - (intOf t).toNat)
    case atStart => exact ⟨0, none, by omega, rfl, .inl ⟨rfl, .inl ⟨rfl, rfl⟩⟩, Below.refl _ _⟩
    case round =>
      obtain ⟨i, row, hi, rfl, HG⟩ := hrel
      by_cases hlt : i < n
      case neg =>
        have HE : Hid (i = n) := by show i = n; omega
        go_wp2
        go_ret
        refine ⟨_, rfl, ?_, HBW.out.trans (HG.out.2.mono HBW.out.size)⟩
        rw [← HE.out]
        exact (HG.out.1.rd HG.out.2.size).weaken (fun _ _ _ => True.intro)
      case pos =>
        obtain ⟨v, hc0, a, c, rfl, hcap, hp⟩ := C1.out i (by omega)
        obtain ⟨m, HM⟩ : ∃ m, Hid (m = (L i).length) := ⟨_, rfl⟩
        have HP : Hid ((ents true L cs C i).length + m ≤ 200000) := by
          have h1 := flatTo_step (part true L cs C) hlt
          have h2 := HCS.out.2
          have h3 : part true L cs C i = L i := rfl
          rw [h3, ← HM.out] at h1
          unfold ents at h2 ⊢
          show _ ≤ _
          omega
        have HN : Hid (ents true L cs C i ++ L i = ents true L cs C (i + 1)) := rfl
        obtain ⟨pre, hpre⟩ : ∃ pre, pre = ents true L cs C i := ⟨_, rfl⟩
        rw [← hpre] at HG HP HN
        clear hpre
        rw [← HM.out] at hc0 hp hcap
        have HP2 := hide2 hp hc0
        have hmb : m ≤ 200000 := by have := HP.out; omega
        clear hp hc0
        go_wp2_with fail
        go_loopw [11, 13] (fun o t wr2 => ∃ (k : Nat) (row2 : Option Nat), k ≤ m ∧ t = .int .i64 (k : Int) ∧ Hid (Got W wr2 o (pre ++ (L i).take k) row2)) (fun _ t _ => m - (intOf t).toNat)
        case atStart => exact ⟨0, row, by omega, rfl, by show Got _ _ _ _ _; simpa using HG.out⟩
        case round =>
          obtain ⟨k, row2, hk, rfl, HG2⟩ := hrel
          have hc := below_cell HG2.out.2 HP2.out.2
          by_cases hkm : k < m
          case neg =>
            have HG3 : Hid (Got W wr u11 (ents true L cs C (i + 1)) row2) := by
              show Got _ _ _ _ _
              have := HG2.out
              rw [List.take_of_length_le (by have := HM.out; omega), HN.out] at this
              exact this
            go_wp2
            go_roundw
            case rel => exact ⟨i + 1, row2, by omega, by go_num, HG3⟩
            case measure => simp [intOf]; omega
          case pos =>
            obtain ⟨b, o, rfl, _, _, hcs⟩ := HP2.out.1 (by omega)
            obtain ⟨y, HY⟩ : ∃ y, Hid ((L i).getD k 0 = y) := ⟨_, rfl⟩
            have hy := below_cell HG2.out.2 (hcs k hkm)
            rw [HY.out] at hy
            clear hcs
            have hkm' : (k : Int) < (m : Int) := by omega
            have hlen : (pre ++ (L i).take k).length ≤ 10000000 := by
              have := HP.out
              simp
              omega
            have hsz := HG2.out.2.size
            go_wp2_with (at_builtin; refine wpList_append_mine (by rfl) _ _ _ (by rfl) under29 uinfo26 (by decide) W.heap.size _ u11 (pre ++ (L i).take k) row2 (by rfl) (by exact HG2.out.1.alloc hsz _) (by simp; omega) hlen _ _ y (by rfl) (by exact one_cell _ _ _) ?_; intro g cap w2 hown2 hgrow2 hrow2 hlt2; have HG3 : Hid (Got W w2 _ _ _) := HG2.out.step (grown_none_alloc _ _) hown2 hgrow2; clear hown2 hgrow2 hrow2)
            have HG4 : Hid (Got W w2 (.slice (some ⟨g, 0, none⟩) ((pre ++ (L i).take k).length + 1) cap) (pre ++ (L i).take (k + 1)) (some g)) := by
              show Got _ _ _ _ _
              have := HG3.out
              rw [← HY.out, take_push (L i) k (by rw [← HM.out]; exact hkm) pre] at this
              exact this
            go_roundw
            case rel => exact ⟨k + 1, some g, by omega, by go_num, by have := HG4.out; simp only [List.length_append, List.length_take] at this; exact this⟩
            case measure => simp [intOf]; omega
  | false =>
    go_loopw [11, 12, 13, 14, 15] (fun o t _ _ _ wr => ∃ (i : Nat) (row : Option Nat), i ≤ n ∧ t = .int .i64 (i : Int) ∧ Hid (Got W wr o (ents false L cs C i) row)) (fun _ t _ _ _ _ => n - (intOf t).toNat)
    case atStart => exact ⟨0, none, by omega, rfl, .inl ⟨rfl, .inl ⟨rfl, rfl⟩⟩, Below.refl _ _⟩
    case round =>
      obtain ⟨i, row, hi, rfl, HG⟩ := hrel
      by_cases hlt : i < n
      case neg =>
        have HE : Hid (i = n) := by show i = n; omega
        go_wp2
        go_ret
        refine ⟨_, rfl, ?_, HBW.out.trans (HG.out.2.mono HBW.out.size)⟩
        rw [← HE.out]
        exact (HG.out.1.rd HG.out.2.size).weaken (fun _ _ _ => True.intro)
      case pos =>
        obtain ⟨J, HJ⟩ : ∃ J : Nat, Hid (cs i = (J : Int) ∧ J ≤ 16) := by
          obtain ⟨h1, h2⟩ := HCS.out.1 rfl i hlt
          exact ⟨(cs i).toNat, by show _ = _; omega, by omega⟩
        have hJ := HJ.out.2
        have HC2 := C2.out i (by omega)
        rw [HJ.out.1] at HC2
        have HP : Hid ((ents false L cs C i).length + (flatTo (C i) J).length ≤ 200000) := by
          have h1 := flatTo_step (part false L cs C) hlt
          have h2 := HCS.out.2
          have h3 : part false L cs C i = flatTo (C i) J := by
            have : (cs i).toNat = J := by rw [HJ.out.1]; rfl
            show flatTo (C i) (cs i).toNat = _
            rw [this]
          rw [h3] at h1
          unfold ents at h2 ⊢
          show _ ≤ _
          omega
        have HN : Hid (ents false L cs C i ++ flatTo (C i) J = ents false L cs C (i + 1)) := by
          have : (cs i).toNat = J := by rw [HJ.out.1]; rfl
          show _ = _ ++ flatTo (C i) (cs i).toNat
          rw [this]; rfl
        obtain ⟨pre, hpre⟩ : ∃ pre, pre = ents false L cs C i := ⟨_, rfl⟩
        rw [← hpre] at HG HP HN
        clear hpre
        have HC3 := hide2 HC2 True.intro
        clear HC2
        go_wp2_with fail
        go_loopw [11, 14, 15] (fun o t _ wr2 => ∃ (j : Nat) (row2 : Option Nat), j ≤ J ∧ t = .int .i64 (j : Int) ∧ Hid (Got W wr2 o (pre ++ flatTo (C i) j) row2)) (fun _ t _ _ => J - (intOf t).toNat)
        case atStart => exact ⟨0, row, by omega, rfl, by show Got _ _ _ _ _; simpa [flatTo] using HG.out⟩
        case round =>
          obtain ⟨j, row2, hj, rfl, HG2⟩ := hrel
          have hcJ := below_cell HG2.out.2 HC3.out.1
          by_cases hjJ : j < J
          case neg =>
            have HE : Hid (j = J) := by show j = J; omega
            have HG3 : Hid (Got W wr u11 (ents false L cs C (i + 1)) row2) := by
              show Got _ _ _ _ _
              have := HG2.out
              rw [HE.out, HN.out] at this
              exact this
            go_wp2
            go_roundw
            case rel => exact ⟨i + 1, row2, by omega, by go_num, HG3⟩
            case measure => simp [intOf]; omega
          case pos =>
            obtain ⟨v, hc0, a, c, rfl, hcap, hp⟩ := C3.out i j (by omega) (by omega)
            obtain ⟨m, HM⟩ : ∃ m, Hid (m = (C i j).length) := ⟨_, rfl⟩
            have HPj : Hid ((pre ++ flatTo (C i) j).length + m ≤ 200000) := by
              have h1 := flatTo_step (C i) hjJ
              have h2 := HP.out
              rw [← HM.out] at h1
              show _ ≤ _
              simp
              omega
            have HNj : Hid ((pre ++ flatTo (C i) j) ++ C i j = pre ++ flatTo (C i) (j + 1)) := by show _ = _; simp [flatTo]
            obtain ⟨prj, hprj⟩ : ∃ prj, prj = pre ++ flatTo (C i) j := ⟨_, rfl⟩
            rw [← hprj] at HG2 HPj HNj
            clear hprj
            rw [← HM.out] at hc0 hp hcap
            have HP2 := hide2 hp hc0
            have hmb : m ≤ 200000 := by have := HPj.out; omega
            have hjJ' : (j : Int) < (J : Int) := by omega
            clear hp hc0
            go_wp2_with fail
            go_loopw [11, 15] (fun o t wr2 => ∃ (k : Nat) (row2 : Option Nat), k ≤ m ∧ t = .int .i64 (k : Int) ∧ Hid (Got W wr2 o (prj ++ (C i j).take k) row2)) (fun _ t _ => m - (intOf t).toNat)
            case atStart => exact ⟨0, row2, by omega, rfl, by show Got _ _ _ _ _; simpa using HG2.out⟩
            case round =>
              clear hcJ
              obtain ⟨k, row3, hk, rfl, HG4⟩ := hrel
              have hc := below_cell HG4.out.2 HP2.out.2
              by_cases hkm : k < m
              case neg =>
                have HG3 : Hid (Got W wr u11 (pre ++ flatTo (C i) (j + 1)) row3) := by
                  show Got _ _ _ _ _
                  have := HG4.out
                  rw [List.take_of_length_le (by have := HM.out; omega), HNj.out] at this
                  exact this
                go_wp2
                go_roundw
                case rel => exact ⟨j + 1, row3, by omega, by go_num, HG3⟩
                case measure => simp [intOf]; omega
              case pos =>
                obtain ⟨b, o, rfl, _, _, hcs⟩ := HP2.out.1 (by omega)
                obtain ⟨y, HY⟩ : ∃ y, Hid ((C i j).getD k 0 = y) := ⟨_, rfl⟩
                have hy := below_cell HG4.out.2 (hcs k hkm)
                rw [HY.out] at hy
                clear hcs
                have hkm' : (k : Int) < (m : Int) := by omega
                have hlen : (prj ++ (C i j).take k).length ≤ 10000000 := by
                  have := HPj.out
                  simp
                  omega
                have hsz := HG4.out.2.size
                go_wp2_with (at_builtin; refine wpList_append_mine (by rfl) _ _ _ (by rfl) under29 uinfo26 (by decide) W.heap.size _ u11 (prj ++ (C i j).take k) row3 (by rfl) (by exact HG4.out.1.alloc hsz _) (by simp; omega) hlen _ _ y (by rfl) (by exact one_cell _ _ _) ?_; intro g cap w2 hown2 hgrow2 hrow2 hlt2; have HG5 : Hid (Got W w2 _ _ _) := HG4.out.step (grown_none_alloc _ _) hown2 hgrow2; clear hown2 hgrow2 hrow2)
                have HG6 : Hid (Got W w2 (.slice (some ⟨g, 0, none⟩) ((prj ++ (C i j).take k).length + 1) cap) (prj ++ (C i j).take (k + 1)) (some g)) := by
                  show Got _ _ _ _ _
                  have := HG5.out
                  rw [← HY.out, take_push (C i j) k (by rw [← HM.out]; exact hkm) prj] at this
                  exact this
                go_roundw
                case rel => exact ⟨k + 1, some g, by omega, by go_num, by have := HG6.out; simp only [List.length_append, List.length_take] at this; exact this⟩
                case measure => simp [intOf]; omega

end Go.Proofs.Qxb6604322a.Tree
