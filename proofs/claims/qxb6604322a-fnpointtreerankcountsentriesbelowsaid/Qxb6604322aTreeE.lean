/-
  zzTreeValid (16): the walk.
-/
import Derived.Test.Qxb6604322aTreeD
import Derived.Deep.MidRow
namespace Go.Proofs.Qxb6604322a.Tree
open Go.ChangeShapes Go.WideShapes Go.ChangeAt Go.RowKit Mem
set_option linter.unusedVariables false
set_option linter.unusedSimpArgs false

/-- A leaf that is not empty and ends in l. -/
def Leaf (zs : List Int) (l : Int) : Prop := 0 < zs.length ∧ zs.getD (zs.length - 1) 0 = l

/-- What zzTreeValid has checked of the root's child i. -/
def Kid (low : Bool) (la co : Nat → Int) (L : Nat → List Int) (cs : Nat → Int) (cl : Nat → Nat → Int) (C : Nat → Nat → List Int) (i : Nat) : Prop :=
  if low then Leaf (L i) (la i) else
    ∃ J : Nat, cs i = (J : Int) ∧ 1 ≤ J ∧ J ≤ 16 ∧ (∀ j, j < J → Leaf (C i j) (cl i j)) ∧ cl i (J - 1) = la i ∧ co i = (sumTo (fun j => (C i j).length) J : Nat)

/-- A tree that zzTreeValid lets pass. -/
def Valid (s : Int) (low : Bool) (la co : Nat → Int) (L : Nat → List Int) (cs : Nat → Int) (cl : Nat → Nat → Int) (C : Nat → Nat → List Int) : Prop :=
  ∃ n : Nat, s = (n : Int) ∧ n ≤ 16 ∧ (∀ i, i < n → Kid low la co L cs cl C i) ∧ Up (ents low L cs C n)

def ValidPost (s : Int) (low : Bool) (la co : Nat → Int) (L : Nat → List Int) (cs : Nat → Int) (cl : Nat → Nat → Int) (C : Nat → Nat → List Int) (w : World) (e : Ending) (w' : World) : Prop :=
  ∃ b : Bool, e = .returned (.bool b) ∧ (b = true → Valid s low la co L cs cl C) ∧ Below w.heap.size w w'

theorem leaf_of {zs : List Int} {l : Int} (h : fitsB zs l = true) : Leaf zs l := by
  unfold fitsB at h
  simp only [Bool.and_eq_true, decide_eq_true_eq, beq_iff_eq] at h
  exact h

theorem sumTo_mono (f g : Nat → Nat) (k : Nat) (h : ∀ i, i < k → f i ≤ g i) : sumTo f k ≤ sumTo g k := by
  induction k with
  | zero => exact Nat.le_refl _
  | succ k ih =>
    have h1 := ih (fun i hi => h i (by omega))
    have h2 := h k (by omega)
    simp only [sumTo]; omega

theorem sumTo_one (f : Nat → Nat) (i k : Nat) (h : i < k) : f i ≤ sumTo f k := by
  have h1 := sumTo_le f (i + 1) k h
  simp only [sumTo] at h1; omega

theorem part_le (low : Bool) (L : Nat → List Int) (cs : Nat → Int) (C : Nat → Nat → List Int) (i : Nat) (hcs : low = false → cs i ≤ 16) :
    (part low L cs C i).length ≤ (L i).length + sumTo (fun j => (C i j).length) 16 := by
  unfold part
  cases low with
  | true => simp
  | false =>
    have h := hcs rfl
    simp only [Bool.false_eq_true, if_false]
    rw [flatTo_len]
    have := sumTo_le (fun j => (C i j).length) (cs i).toNat 16 (by omega)
    omega

theorem ents_le (low : Bool) (L : Nat → List Int) (cs : Nat → Int) (C : Nat → Nat → List Int) (n : Nat) (hn : n ≤ 16) (hcs : low = false → ∀ i, i < n → cs i ≤ 16) :
    (ents low L cs C n).length ≤ total (fun i => (L i).length) (fun i j => (C i j).length) 16 := by
  unfold ents total
  rw [flatTo_len]
  refine Nat.le_trans (sumTo_mono _ (fun i => (L i).length + sumTo (fun j => (C i j).length) 16) n (fun i hi => part_le low L cs C i (fun e => hcs e i hi))) (sumTo_le _ n 16 hn)

theorem leaf_le (L : Nat → List Int) (C : Nat → Nat → List Int) (i : Nat) (hi : i < 16) : (L i).length ≤ total (fun i => (L i).length) (fun i j => (C i j).length) 16 := by
  have h : (L i).length + sumTo (fun j => (C i j).length) 16 ≤ total (fun i => (L i).length) (fun i j => (C i j).length) 16 := sumTo_one (fun i => (L i).length + sumTo (fun j => (C i j).length) 16) i 16 hi
  omega
theorem child_le (L : Nat → List Int) (C : Nat → Nat → List Int) (i j : Nat) (hi : i < 16) (hj : j < 16) : sumTo (fun j => (C i j).length) 16 ≤ total (fun i => (L i).length) (fun i j => (C i j).length) 16 := by
  have h : (L i).length + sumTo (fun j => (C i j).length) 16 ≤ total (fun i => (L i).length) (fun i j => (C i j).length) 16 := sumTo_one (fun i => (L i).length + sumTo (fun j => (C i j).length) 16) i 16 hi
  omega

/-- A whole array is read from its box. -/
theorem wpList_load_box {P : Program} {ops : Array Oper} {rest : List Oper} {op : Oper} {a : Act} {w : World} {Q : Exit → Act → World → Prop} (hgd : op.guard = none) (ty : TypeId) (x : Operand) (ho : op.op = .load ty x)
    (b : Nat) (hx : a.eval x = .pointer (some ⟨b, 0, none⟩)) (A : Array Value) (d : TypeDesc) (hc : ∀ i v, A[i]? = some v → w.cell? ⟨b, i, none⟩ = some v)
    (hu : P.underlying ty = some d) (hd : d.isRow = true) (hi : (P.info? ty).map (·.size) = some A.size)
    (h : wpList P ops Q rest (a.put op.dst (.agg A)) w) : wpList P ops Q (op :: rest) a w :=
  wpList_load_mid hgd ty x ho b 0 hx A.toList d (fun j v hv => by rw [Nat.zero_add]; exact hc j v (by simpa using hv)) hu hd (by simpa using hi) (by simpa using h)

theorem tsize30 : (Try.prog.info? 30).map (·.size) = some 16 := by kernel_rfl
theorem tsize31 : (Try.prog.info? 31).map (·.size) = some 16 := by kernel_rfl
theorem tsize33 : (Try.prog.info? 33).map (·.size) = some 256 := by kernel_rfl

set_option maxRecDepth 100000 in
set_option maxHeartbeats 4000000 in
theorem valid_any (s : Int) (low : Bool) (AV NV LV SV BV CV : Array Value) (la co : Nat → Int) (L : Nat → List Int) (cs : Nat → Int) (cl : Nat → Nat → Int) (C : Nat → Nat → List Int) (w : World)
    (h1 : Ints .u64 AV 16 la) (h2 : Ints .i32 NV 16 co) (h3 : Arr w LV 16 L) (h4 : Ints .i64 SV 16 cs) (h5 : Ints .u64 BV 256 (fun q => cl (q / 16) (q % 16))) (h6 : Arr w CV 256 (fun q => C (q / 16) (q % 16)))
    (hs1 : -9223372036854775808 ≤ s) (hs2 : s ≤ 9223372036854775807) (hc1 : ∀ i, -9223372036854775808 ≤ cs i ∧ cs i ≤ 9223372036854775807) (hco : ∀ i, -2147483648 ≤ co i ∧ co i ≤ 2147483647)
    (ht : total (fun i => (L i).length) (fun i j => (C i j).length) 16 ≤ 131072) :
    Calls Try.prog 16 #[.int .i64 s, .bool low, .agg AV, .agg NV, .agg LV, .agg SV, .agg BV, .agg CV, .bool false] w (ValidPost s low la co L cs cl C w) := by
  have EARGS := hide2 h3 (hide2 h4 h6)
  by_cases hs0 : s < 0
  · go_enter Try.func16, Try.ntmps16
    go_wp2
    go_ret
    exact ⟨false, rfl, (fun h => by cases h), boxAll_below [(AV, 27), (NV, 28), (LV, 30), (SV, 31), (BV, 32), (CV, 33)] w⟩
  by_cases hs16 : 16 < s
  · go_enter Try.func16, Try.ntmps16
    go_wp2
    go_ret
    exact ⟨false, rfl, (fun h => by cases h), boxAll_below [(AV, 27), (NV, 28), (LV, 30), (SV, 31), (BV, 32), (CV, 33)] w⟩
  obtain ⟨n, rfl⟩ : ∃ n : Nat, s = (n : Int) := ⟨s.toNat, by omega⟩
  have hn : n ≤ 16 := by omega
  clear hs0 hs16 hs1 hs2
  go_enter Try.func16, Try.ntmps16
  go_wp2_with fail
  obtain ⟨W, hW⟩ : ∃ W, W = boxAll w [(AV, 27), (NV, 28), (LV, 30), (SV, 31), (BV, 32), (CV, 33)] := ⟨_, rfl⟩
  have HBW : Hid (Below w.heap.size w W) := by show Below _ _ _; rw [hW]; exact boxAll_below _ w
  have C1 : Hid (∀ i, i < 16 → W.cell? ⟨w.heap.size, i, none⟩ = some (.int .u64 (la i))) := fun i hi => by
    rw [hW]; exact boxAll_cell _ w 0 i AV 27 _ rfl (h1.2 i hi)
  have C2 : Hid (∀ i, i < 16 → W.cell? ⟨w.heap.size + 1, i, none⟩ = some (.int .i32 (co i))) := fun i hi => by
    rw [hW]; exact boxAll_cell _ w 1 i NV 28 _ rfl (h2.2 i hi)
  have C3 : Hid (∀ i, i < 16 → ∃ v, W.cell? ⟨w.heap.size + 2, i, none⟩ = some v ∧ RdS (fun _ => True) .u64 W v (L i)) := fun i hi => by
    obtain ⟨v, hv, hr⟩ := h3.2 i hi
    exact ⟨v, by rw [hW]; exact boxAll_cell _ w 2 i LV 30 v rfl hv, RdS.below hr HBW.out⟩
  have C4 : Hid (∀ i, i < 16 → W.cell? ⟨w.heap.size + 3, i, none⟩ = some (.int .i64 (cs i))) := fun i hi => by
    rw [hW]; exact boxAll_cell _ w 3 i SV 31 _ rfl (h4.2 i hi)
  have C5 : Hid (∀ i j, i < 16 → j < 16 → W.cell? ⟨w.heap.size + 4, i * 16 + j, none⟩ = some (.int .u64 (cl i j))) := fun i j hi hj => by
    have hv := h5.2 (i * 16 + j) (by omega)
    simp only at hv
    rw [show (i * 16 + j) / 16 = i from by omega, show (i * 16 + j) % 16 = j from by omega] at hv
    rw [hW]; exact boxAll_cell _ w 4 _ BV 32 _ rfl hv
  have C6 : Hid (∀ i j, i < 16 → j < 16 → ∃ v, W.cell? ⟨w.heap.size + 5, i * 16 + j, none⟩ = some v ∧ RdS (fun _ => True) .u64 W v (C i j)) := fun i j hi hj => by
    obtain ⟨v, hv, hr⟩ := h6.2 (i * 16 + j) (by omega)
    simp only at hr
    rw [show (i * 16 + j) / 16 = i from by omega, show (i * 16 + j) % 16 = j from by omega] at hr
    exact ⟨v, by rw [hW]; exact boxAll_cell _ w 5 _ CV 33 v rfl hv, RdS.below hr HBW.out⟩
  have HX : Hid ((∀ i v, LV[i]? = some v → W.cell? ⟨w.heap.size + 2, i, none⟩ = some v) ∧ (∀ i v, SV[i]? = some v → W.cell? ⟨w.heap.size + 3, i, none⟩ = some v) ∧ (∀ i v, CV[i]? = some v → W.cell? ⟨w.heap.size + 5, i, none⟩ = some v)) := by
    refine ⟨fun i v h => ?_, fun i v h => ?_, fun i v h => ?_⟩
    · rw [hW]; exact boxAll_cell _ w 2 i LV 30 v rfl h
    · rw [hW]; exact boxAll_cell _ w 3 i SV 31 v rfl h
    · rw [hW]; exact boxAll_cell _ w 5 i CV 33 v rfl h
  have HT := hide2 ht (hide2 hc1 hco)
  simp only [boxAll] at hW
  rw [← hW]
  clear hW h1 h2 h3 h4 h5 h6 ht hc1 hco
  go_loopw [19, 20, 21, 22] (fun t _ _ _ wr => ∃ (i d : Nat), i ≤ n ∧ t = .int .i64 (i : Int) ∧ Hid (wr = W.drewN d) ∧ Hid (∀ q, q < i → Kid low la co L cs cl C q)) (fun t _ _ _ _ => n - (intOf t).toNat)
  case atStart => exact ⟨0, 0, by omega, rfl, rfl, fun q hq => by omega⟩
  case round =>
    obtain ⟨i, d, hi, rfl, HW, HI⟩ := hrel
    have HWB : Hid (Below W.heap.size W wr) := by show Below _ _ _; rw [HW.out]; exact below_drewN (Below.refl _ _) _
    by_cases hlt : i < n
    case neg =>
      have HE : Hid (i = n) := by show i = n; omega
      have HBR : Hid (Below w.heap.size w wr) := HBW.out.trans (HWB.out.mono HBW.out.size)
      have z30 : (Try.prog.info? 30).map (·.size) = some LV.size := by rw [EARGS.out.1.1]; exact tsize30
      have z31 : (Try.prog.info? 31).map (·.size) = some SV.size := by rw [EARGS.out.2.out.1.1]; exact tsize31
      have z33 : (Try.prog.info? 33).map (·.size) = some CV.size := by rw [EARGS.out.2.out.2.1]; exact tsize33
      have Z := hide2 z30 (hide2 z31 z33)
      clear z30 z31 z33
      go_wp2_with (first
        | (refine wpList_load_box (by rfl) 30 _ (by rfl) _ (by rfl) LV _ (fun i v h => below_cell HWB.out (HX.out.1 i v h)) Try.underlying30 rfl Z.out.1 ?_)
        | (refine wpList_load_box (by rfl) 31 _ (by rfl) _ (by rfl) SV _ (fun i v h => below_cell HWB.out (HX.out.2.1 i v h)) Try.underlying31 rfl Z.out.2.out.1 ?_)
        | (refine wpList_load_box (by rfl) 33 _ (by rfl) _ (by rfl) CV _ (fun i v h => below_cell HWB.out (HX.out.2.2 i v h)) Try.underlying33 rfl Z.out.2.out.2 ?_))
      have HV : Hid (∀ q, q < n → Kid low la co L cs cl C q) := by rw [← HE.out]; exact HI
      have hcs : low = false → ∀ q, q < n → 0 ≤ cs q ∧ cs q ≤ 16 := fun e q hq => by
        have := HV.out q hq
        subst e
        obtain ⟨J, h1, h2, h3, _⟩ := this
        omega
      have hll : (ents low L cs C n).length ≤ 131072 := Nat.le_trans (ents_le low L cs C n hn (fun e q hq => (hcs e q hq).2)) HT.out.1
      have hlb : (ents low L cs C n).length ≤ 200000 := by omega
      have hlc : Hid ((ents low L cs C n).length ≤ 10000000) := by show _ ≤ _; omega
      have T := ents_any n low LV SV CV L cs C wr hn (EARGS.out.1.below HBR.out) EARGS.out.2.out.1 (EARGS.out.2.out.2.below HBR.out) hcs hlb
      clear hcs hll hlb
      refine T.mono ?_
      clear T
      rintro e w1 ⟨v, rfl, hr, hb⟩
      have H5 := hide2 hr hb
      clear hr hb
      go_wp2_with fail
      refine (asc_any v (ents low L cs C n) w1 H5.out.1 hlc.out).mono ?_
      rintro e w2 ⟨b, dd, rfl, hup, hw2⟩
      have H6 := hide2 hup hw2
      clear hup hw2
      go_wp2
      go_ret
      refine ⟨b, rfl, fun h => ⟨n, rfl, hn, HV.out, H6.out.1 h⟩, ?_⟩
      rw [H6.out.2]
      exact below_drewN (HBR.out.trans (H5.out.2.mono HBR.out.size)) dd
    case pos =>
      cases low with
      | true =>
        have k1 := below_cell HWB.out (C1.out i (by omega))
        obtain ⟨v, k3', r3'⟩ := C3.out i (by omega)
        have k3 := below_cell HWB.out k3'
        have r3 := RdS.below r3' HWB.out
        clear k3' r3'
        have hl : (L i).length ≤ 10000000 := Nat.le_trans (leaf_le L C i (by omega)) (Nat.le_trans HT.out.1 (by decide))
        obtain ⟨a, c, rfl, hcap, hp⟩ := id r3
        have H3 := hide2 r3 hl
        have hi' : (i : Int) < 16 := by omega
        clear r3 hl hp hcap
        obtain ⟨m, HM⟩ : ∃ m, Hid (m = (L i).length) := ⟨_, rfl⟩
        rw [← HM.out] at k3
        have H4 : Hid (RdS (fun _ => True) .u64 wr (.slice a m c) (L i)) := by show RdS _ _ _ _ _; rw [HM.out]; exact H3.out.1
        go_wp2_with fail
        obtain ⟨f, HF⟩ : ∃ f, Hid (f = fitsB (L i) (la i)) := ⟨_, rfl⟩
        go_quiet (first | (go_at_call 34; refine Calls.quiet_of_same (fits_any _ (L i) (la i) _ ?_ ?_); (exact RdS.below H4.out (below_drewN (Below.refl _ _) _)); exact H3.out.2))
        have HBN : Hid (Below w.heap.size w (wr.drewN nq)) := HBW.out.trans (below_drewN (HWB.out.mono HBW.out.size) nq)
        cases hf : fitsB (L i) (la i) with
        | false =>
          go_wp2
          go_ret
          exact ⟨false, rfl, (fun h => by cases h), HBN.out⟩
        | true =>
          have HS : Hid (∀ q, q < i + 1 → Kid true la co L cs cl C q) := fun q hq => by
            by_cases e : q = i
            · subst e; exact leaf_of hf
            · exact HI.out q (by omega)
          go_wp2
          go_roundw
          case rel => exact ⟨i + 1, _, by omega, by go_num, by show _ = _; rw [HW.out]; exact World.drewN_drewN .., HS⟩
          case measure => simp [intOf]; omega
      | false =>
        have k4 := below_cell HWB.out (C4.out i (by omega))
        obtain ⟨hJ1, hJ2⟩ := HT.out.2.out.1 i
        have hi' : (i : Int) < 16 := by omega
        obtain ⟨z, HZ⟩ : ∃ z, Hid (cs i = z) := ⟨_, rfl⟩
        rw [HZ.out] at k4 hJ1 hJ2
        have HBR : Hid (Below w.heap.size w wr) := HBW.out.trans (HWB.out.mono HBW.out.size)
        by_cases hz1 : z < 1
        · go_wp2
          go_ret
          exact ⟨false, rfl, (fun h => by cases h), HBR.out⟩
        by_cases hz2 : 16 < z
        · go_wp2
          go_ret
          exact ⟨false, rfl, (fun h => by cases h), HBR.out⟩
        obtain ⟨J, rfl⟩ : ∃ J : Nat, z = (J : Int) := ⟨z.toNat, by omega⟩
        have hJa : 1 ≤ J := by omega
        have hJb : J ≤ 16 := by omega
        clear hz1 hz2 hJ1 hJ2
        go_wp2_with fail
        go_loopw [21, 22] (fun s t wr2 => ∃ (j r d2 : Nat), j ≤ J ∧ t = .int .i64 (j : Int) ∧ s = .int .i64 (r : Int) ∧ r ≤ 131072 ∧ Hid (wr2 = W.drewN d2) ∧ Hid (∀ q, q < j → Leaf (C i q) (cl i q)) ∧ Hid (r = sumTo (fun q => (C i q).length) j)) (fun _ t _ => J - (intOf t).toNat)
        case atStart => exact ⟨0, 0, d, by omega, rfl, rfl, by omega, HW, (fun q hq => by omega), rfl⟩
        case round =>
          clear k4
          obtain ⟨j, r, d2, hj, rfl, rfl, hr, HW2, HL, HR⟩ := hrel
          have HWB2 : Hid (Below W.heap.size W wr) := by show Below _ _ _; rw [HW2.out]; exact below_drewN (Below.refl _ _) _
          by_cases hjJ : j < J
          case neg =>
            have HE : Hid (j = J) := by show j = J; omega
            have HBN : Hid (∀ nq, Below w.heap.size w (wr.drewN nq)) := fun nq => HBW.out.trans (below_drewN (HWB2.out.mono HBW.out.size) nq)
            have k1 := below_cell HWB2.out (C1.out i (by omega))
            have k2 := below_cell HWB2.out (C2.out i (by omega))
            have k5 := below_cell HWB2.out (C5.out i (J - 1) (by omega) (by omega))
            obtain ⟨hc1, hc2⟩ := HT.out.2.out.2 i
            obtain ⟨y1, Y1⟩ : ∃ y, Hid (la i = y) := ⟨_, rfl⟩
            obtain ⟨y2, Y2⟩ : ∃ y, Hid (co i = y) := ⟨_, rfl⟩
            obtain ⟨y3, Y3⟩ : ∃ y, Hid (cl i (J - 1) = y) := ⟨_, rfl⟩
            rw [Y1.out] at k1
            rw [Y2.out] at k2 hc1 hc2
            rw [Y3.out] at k5
            by_cases e1 : y3 = y1
            · by_cases e2 : y2 = (r : Int)
              · have hb1 : (y3 != y1) = false := by simp [e1]
                have hb2 : (y2 != (r : Int)) = false := by simp [e2]
                have HS : Hid (∀ q, q < i + 1 → Kid false la co L cs cl C q) := fun q hq => by
                  by_cases e : q = i
                  · subst e
                    exact ⟨J, HZ.out, hJa, hJb, (fun j' hj' => HL.out j' (by rw [HE.out]; exact hj')), (by rw [Y3.out, Y1.out, e1]), (by rw [Y2.out, e2, HR.out, HE.out])⟩
                  · exact HI.out q (by omega)
                clear e1 e2
                go_wp2_with fail
                go_quiet (fail)
                go_wp2
                go_roundw
                case rel => exact ⟨i + 1, _, by omega, by go_num, by show _ = _; rw [HW2.out]; exact World.drewN_drewN .., HS⟩
                case measure => simp [intOf]; omega
              · have hb1 : (y3 != y1) = false := by simp [e1]
                have hb2 : (y2 != (r : Int)) = true := by simpa using e2
                clear e1 e2
                go_wp2_with fail
                go_quiet (fail)
                go_wp2
                go_ret
                exact ⟨false, rfl, (fun h => by cases h), HBN.out _⟩
            · have hb1 : (y3 != y1) = true := by simpa using e1
              clear e1
              go_wp2_with fail
              go_quiet (fail)
              go_wp2
              go_ret
              exact ⟨false, rfl, (fun h => by cases h), HBN.out _⟩
          case pos =>
            have hj' : (j : Int) < 16 := by omega
            have k5 := below_cell HWB2.out (C5.out i j (by omega) (by omega))
            obtain ⟨v, k6', r6'⟩ := C6.out i j (by omega) (by omega)
            have k6 := below_cell HWB2.out k6'
            have r6 := RdS.below r6' HWB2.out
            clear k6' r6'
            have hsum : sumTo (fun q => (C i q).length) (j + 1) ≤ 131072 := Nat.le_trans (sumTo_le _ (j + 1) 16 (by omega)) (Nat.le_trans (child_le L C i j (by omega) (by omega)) HT.out.1)
            have hl : (C i j).length ≤ 10000000 := by simp only [sumTo] at hsum; omega
            obtain ⟨a, c, rfl, hcap, hp⟩ := id r6
            have H3 := hide2 r6 hl
            clear r6 hl hp hcap
            obtain ⟨m, HM⟩ : ∃ m, Hid (m = (C i j).length) := ⟨_, rfl⟩
            rw [← HM.out] at k6
            have H4 : Hid (RdS (fun _ => True) .u64 wr (.slice a m c) (C i j)) := by show RdS _ _ _ _ _; rw [HM.out]; exact H3.out.1
            have hrm : r + m ≤ 131072 := by rw [HM.out, HR.out]; exact hsum
            have HRS : Hid (r + m = sumTo (fun q => (C i q).length) (j + 1)) := by show _ = _; rw [HM.out, HR.out]; rfl
            clear hsum
            go_wp2_with fail
            go_quiet (first | (go_at_call 34; refine Calls.quiet_of_same (fits_any _ (C i j) (cl i j) _ ?_ ?_); (exact RdS.below H4.out (below_drewN (Below.refl _ _) _)); exact H3.out.2))
            have HBN : Hid (Below w.heap.size w (wr.drewN nq)) := HBW.out.trans (below_drewN (HWB2.out.mono HBW.out.size) nq)
            cases hf : fitsB (C i j) (cl i j) with
            | false =>
              go_wp2
              go_ret
              exact ⟨false, rfl, (fun h => by cases h), HBN.out⟩
            | true =>
              have HS : Hid (∀ q, q < j + 1 → Leaf (C i q) (cl i q)) := fun q hq => by
                by_cases e : q = j
                · subst e; exact leaf_of hf
                · exact HL.out q (by omega)
              go_wp2
              go_roundw
              case rel => exact ⟨j + 1, r + m, _, by omega, by go_num, by go_num, hrm, by show _ = _; rw [HW2.out]; exact World.drewN_drewN .., HS, HRS⟩
              case measure => simp [intOf]; omega

end Go.Proofs.Qxb6604322a.Tree
