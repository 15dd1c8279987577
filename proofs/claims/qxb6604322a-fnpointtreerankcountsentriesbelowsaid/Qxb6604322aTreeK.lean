/-
  FnPointTreeRankCountsEntriesBelow (5): the walk.
-/
import Derived.Test.Qxb6604322aTreeG
import Derived.Test.Qxb6604322aTreeI
import Derived.Test.Qxb6604322aTreeJ
namespace Go.Proofs.Qxb6604322a.Tree
open Go.ChangeShapes Go.WideShapes Go.ChangeAt Go.RowKit Mem
set_option linter.unusedVariables false
set_option linter.unusedSimpArgs false

/-- The array A lies in block b. -/
def Bx (w : World) (b : Nat) (A : Array Value) : Prop := ∀ i v, A[i]? = some v → w.cell? ⟨b, i, none⟩ = some v

theorem Bx.below {w w' : World} {b B : Nat} {A : Array Value} (h : Bx w b A) (hb : Below B w w') (hB : b < B) : Bx w' b A := fun i v hv =>
  (hb.cell (by simpa using hB)).trans (h i v hv)

theorem boxAll_heap (bs : List (Array Value × TypeId)) (w : World) (k : Nat) (A : Array Value) (t : TypeId) (hk : bs[k]? = some (A, t)) : (boxAll w bs).heap[w.heap.size + k]? = some (.cells A t (0, 0)) := by
  induction bs generalizing w k with
  | nil => simp at hk
  | cons b bs ih =>
    cases k with
    | zero =>
      simp at hk
      subst hk
      rw [boxAll, Nat.add_zero, (boxAll_below bs (w.alloc (.cells A t))).block _ (by simp)]
      exact heap_alloc_new w _
    | succ k =>
      have := ih (w.alloc (.cells b.1 b.2)) k (by simpa using hk)
      rw [show (w.alloc (.cells b.1 b.2)).heap.size + k = w.heap.size + (k + 1) from by simp; omega] at this
      exact this

theorem bx_of {w : World} {b : Nat} {A : Array Value} {t : TypeId} (h : w.heap[b]? = some (.cells A t (0, 0))) : Bx w b A := fun i v hv => by
  rw [cell_of_row w b i A t (0, 0) h]; exact hv

theorem there_of {w : World} {b n : Nat} {A : Array Value} {t : TypeId} (h : w.heap[b]? = some (.cells A t (0, 0))) (hn : A.size = n) : w.there b 0 n := fun j hj => by
  rw [Nat.zero_add, cell_of_row w b j A t (0, 0) h]
  exact ⟨by rw [Array.getElem?_eq_getElem (by omega)]; rfl, frozen_of_row w b j A t h⟩

theorem Fresh.kept {B : Nat} {w w' : World} {A : Array Value} {n : Nat} {f : Nat → List Int} (h : Fresh B w A n f) (hb : ∀ b, B ≤ b → b < w.heap.size → w'.heap[b]? = w.heap[b]?) (hs : w.heap.size ≤ w'.heap.size) : Fresh B w' A n f :=
  ⟨h.1, fun i hi => by
    obtain ⟨v, hv, hr⟩ := h.2 i hi
    exact ⟨v, hv, hr.kept hb hs⟩⟩

theorem Fresh.one {B : Nat} {w : World} {A : Array Value} {n : Nat} {f : Nat → List Int} (h : Fresh B w A n f) : A.all (·.oneCell') = true := Array.all_eq_true_iff_forall_mem.2 (fun v hv => by
  obtain ⟨j, hj, rfl⟩ := Array.mem_iff_getElem.1 hv
  obtain ⟨v, hv, a, c, he, _⟩ := h.2 j (by rw [← h.1]; exact hj)
  rw [Array.getElem?_eq_getElem hj] at hv
  rw [Option.some.inj hv, he]; rfl)

/-- The six boxes. -/
def Six (w : World) (B : Nat) (AV NV LV SV BV CV : Array Value) : Prop := Bx w B AV ∧ Bx w (B + 1) NV ∧ Bx w (B + 2) LV ∧ Bx w (B + 3) SV ∧ Bx w (B + 4) BV ∧ Bx w (B + 5) CV

theorem Six.below {w w' : World} {B D : Nat} {AV NV LV SV BV CV : Array Value} (h : Six w B AV NV LV SV BV CV) (hb : Below D w w') (hD : B + 6 ≤ D) : Six w' B AV NV LV SV BV CV :=
  ⟨h.1.below hb (by omega), h.2.1.below hb (by omega), h.2.2.1.below hb (by omega), h.2.2.2.1.below hb (by omega), h.2.2.2.2.1.below hb (by omega), h.2.2.2.2.2.below hb (by omega)⟩

theorem Bx.other {w : World} {b b' o : Nat} {A : Array Value} (h : Bx w b A) (hb : b ≠ b') (vs : List Value) : Bx (w.setCells b' o vs) b A := fun i v hv => by
  rw [World.cell?_of_block (heap_setCells b' b hb vs o w).1]; exact h i v hv

theorem tsize32 : (Try.prog.info? 32).map (·.size) = some 256 := by kernel_rfl

set_option maxRecDepth 100000 in
set_option maxHeartbeats 2000000 in
theorem law_any (x count s : Int) (low : Bool) (AV NV LV SV BV CV : Array Value) (la co : Nat → Int) (L : Nat → List Int) (cs : Nat → Int) (cl : Nat → Nat → Int) (C : Nat → Nat → List Int) (w : World)
    (h1 : Ints .u64 AV 16 la) (h2 : Ints .i32 NV 16 co) (h3 : Arr w LV 16 L) (h4 : Ints .i64 SV 16 cs) (h5 : Ints .u64 BV 256 (fun q => cl (q / 16) (q % 16))) (h6 : Arr w CV 256 (fun q => C (q / 16) (q % 16)))
    (hs1 : -9223372036854775808 ≤ s) (hs2 : s ≤ 9223372036854775807) (hc1 : ∀ i, -9223372036854775808 ≤ cs i ∧ cs i ≤ 9223372036854775807) (hco : ∀ i, -2147483648 ≤ co i ∧ co i ≤ 2147483647)
    (hb1 : ∀ i, (L i).length ≤ 9223372036854775807) (hb2 : ∀ i j, (C i j).length ≤ 9223372036854775807) :
    Calls Try.prog 5 #[.int .u64 x, .int .i64 count, .int .i64 s, .bool low, .agg AV, .agg NV, .agg LV, .agg SV, .agg BV, .agg CV] w (fun e w' => e = .returned (.bool true) ∧ Below w.heap.size w w') := by
  have HA : Hid _ := And.intro h1 (And.intro h2 (And.intro h3 (And.intro h4 (And.intro h5 h6))))
  have HB : Hid _ := And.intro hs1 (And.intro hs2 (And.intro hc1 (And.intro hco (And.intro hb1 hb2))))
  have HZ : Hid ((Try.prog.info? 27).map (·.size) = some AV.size ∧ (Try.prog.info? 28).map (·.size) = some NV.size ∧ (Try.prog.info? 30).map (·.size) = some LV.size ∧ (Try.prog.info? 31).map (·.size) = some SV.size ∧ (Try.prog.info? 32).map (·.size) = some BV.size ∧ (Try.prog.info? 33).map (·.size) = some CV.size) := by
    refine ⟨?_, ?_, ?_, ?_, ?_, ?_⟩
    · rw [h1.1]; exact tsize27
    · rw [h2.1]; exact tsize28
    · rw [h3.1]; exact tsize30
    · rw [h4.1]; exact tsize31
    · rw [h5.1]; exact tsize32
    · rw [h6.1]; exact tsize33
  clear h1 h2 h3 h4 h5 h6 hs1 hs2 hc1 hco hb1 hb2
  obtain ⟨W, hW⟩ : ∃ W, W = boxAll w [(AV, 27), (NV, 28), (LV, 30), (SV, 31), (BV, 32), (CV, 33)] := ⟨_, rfl⟩
  have HBW : Hid (Below w.heap.size w W) := by show Below _ _ _; rw [hW]; exact boxAll_below _ w
  have HSZ : Hid (W.heap.size = w.heap.size + 6) := by show _ = _; rw [hW]; exact boxAll_size _ w
  have H6 : Hid (Six W w.heap.size AV NV LV SV BV CV) := by
    rw [hW]
    exact ⟨bx_of (boxAll_heap _ w 0 AV 27 rfl), bx_of (boxAll_heap _ w 1 NV 28 rfl), bx_of (boxAll_heap _ w 2 LV 30 rfl), bx_of (boxAll_heap _ w 3 SV 31 rfl), bx_of (boxAll_heap _ w 4 BV 32 rfl), bx_of (boxAll_heap _ w 5 CV 33 rfl)⟩
  have HH2 : Hid (W.heap[w.heap.size + 2]? = some (.cells LV 30 (0, 0))) := by show _ = _; rw [hW]; exact boxAll_heap _ w 2 LV 30 rfl
  have HH5 : Hid (W.heap[w.heap.size + 5]? = some (.cells CV 33 (0, 0))) := by show _ = _; rw [hW]; exact boxAll_heap _ w 5 CV 33 rfl
  have H6E : Hid (Six (boxAll w [(AV, 27), (NV, 28), (LV, 30), (SV, 31), (BV, 32), (CV, 33)]) w.heap.size AV NV LV SV BV CV) := by rw [← hW]; exact H6
  simp only [boxAll] at hW
  go_enter Try.func5, Try.ntmps5
  go_wp2_with (first
    | (refine wpList_load_box (by rfl) 27 _ (by rfl) _ (by rfl) AV _ H6E.out.1 Try.underlying27 rfl HZ.out.1 ?_)
    | (refine wpList_load_box (by rfl) 28 _ (by rfl) _ (by rfl) NV _ H6E.out.2.1 Try.underlying28 rfl HZ.out.2.1 ?_)
    | (refine wpList_load_box (by rfl) 30 _ (by rfl) _ (by rfl) LV _ H6E.out.2.2.1 Try.underlying30 rfl HZ.out.2.2.1 ?_)
    | (refine wpList_load_box (by rfl) 31 _ (by rfl) _ (by rfl) SV _ H6E.out.2.2.2.1 Try.underlying31 rfl HZ.out.2.2.2.1 ?_)
    | (refine wpList_load_box (by rfl) 32 _ (by rfl) _ (by rfl) BV _ H6E.out.2.2.2.2.1 Try.underlying32 rfl HZ.out.2.2.2.2.1 ?_)
    | (refine wpList_load_box (by rfl) 33 _ (by rfl) _ (by rfl) CV _ H6E.out.2.2.2.2.2 Try.underlying33 rfl HZ.out.2.2.2.2.2 ?_))
  rw [← hW]
  clear hW H6E
  have T := bytes_any (.int .u64 x) (.int .i64 count) (.int .i64 s) (.bool low) AV NV LV SV BV CV (fun i => (L i).length) (fun i j => (C i j).length) W (HA.out.2.2.1.sls) HA.out.2.2.2.2.2.sls HB.out.2.2.2.2.1 HB.out.2.2.2.2.2
  refine T.mono ?_
  clear T
  rintro e w1 ⟨b, rfl, hb⟩
  have B1 : Hid (Below W.heap.size W w1) := hb
  have G1 : Hid (Below w.heap.size w w1) := HBW.out.trans (hb.mono HBW.out.size)
  have S1 : Hid (Six w1 w.heap.size AV NV LV SV BV CV) := H6.out.below hb (by rw [HSZ.out]; omega)
  clear hb
  cases b with
  | false =>
    go_wp2
    go_ret
    exact ⟨rfl, G1.out⟩
  | true =>
  go_wp2_with (first
    | (refine wpList_load_box (by rfl) 30 _ (by rfl) _ (by rfl) LV _ S1.out.2.2.1 Try.underlying30 rfl HZ.out.2.2.1 ?_)
    | (refine wpList_load_box (by rfl) 33 _ (by rfl) _ (by rfl) CV _ S1.out.2.2.2.2.2 Try.underlying33 rfl HZ.out.2.2.2.2.2 ?_))
  have T := small_any LV CV (fun i => (L i).length) (fun i j => (C i j).length) w1 (HA.out.2.2.1.sls) HA.out.2.2.2.2.2.sls HB.out.2.2.2.2.1 HB.out.2.2.2.2.2
  refine T.mono ?_
  clear T
  rintro e w2 ⟨b, rfl, ht, hb⟩
  have B2 : Hid (Below W.heap.size W w2) := B1.out.trans (hb.mono B1.out.size)
  have G2 : Hid (Below w.heap.size w w2) := HBW.out.trans (B2.out.mono HBW.out.size)
  have S2 : Hid (Six w2 w.heap.size AV NV LV SV BV CV) := H6.out.below B2.out (by rw [HSZ.out]; omega)
  clear hb B1 G1 S1
  cases b with
  | false =>
    clear ht
    go_wp2
    go_ret
    exact ⟨rfl, G2.out⟩
  | true =>
  have HTT : Hid (total (fun i => (L i).length) (fun i j => (C i j).length) 16 ≤ 131072) := ht rfl
  clear ht
  go_wp2_with (first
    | (refine wpList_load_box (by rfl) 27 _ (by rfl) _ (by rfl) AV _ S2.out.1 Try.underlying27 rfl HZ.out.1 ?_)
    | (refine wpList_load_box (by rfl) 28 _ (by rfl) _ (by rfl) NV _ S2.out.2.1 Try.underlying28 rfl HZ.out.2.1 ?_)
    | (refine wpList_load_box (by rfl) 30 _ (by rfl) _ (by rfl) LV _ S2.out.2.2.1 Try.underlying30 rfl HZ.out.2.2.1 ?_)
    | (refine wpList_load_box (by rfl) 31 _ (by rfl) _ (by rfl) SV _ S2.out.2.2.2.1 Try.underlying31 rfl HZ.out.2.2.2.1 ?_)
    | (refine wpList_load_box (by rfl) 32 _ (by rfl) _ (by rfl) BV _ S2.out.2.2.2.2.1 Try.underlying32 rfl HZ.out.2.2.2.2.1 ?_)
    | (refine wpList_load_box (by rfl) 33 _ (by rfl) _ (by rfl) CV _ S2.out.2.2.2.2.2 Try.underlying33 rfl HZ.out.2.2.2.2.2 ?_))
  have T := valid_any s low AV NV LV SV BV CV la co L cs cl C w2 HA.out.1 HA.out.2.1 (HA.out.2.2.1.below G2.out) HA.out.2.2.2.1 HA.out.2.2.2.2.1 (HA.out.2.2.2.2.2.below G2.out) HB.out.1 HB.out.2.1 HB.out.2.2.1 HB.out.2.2.2.1 HTT.out
  refine T.mono ?_
  clear T
  rintro e w3 ⟨b, rfl, hv, hb⟩
  have B3 : Hid (Below W.heap.size W w3) := B2.out.trans (hb.mono B2.out.size)
  have G3 : Hid (Below w.heap.size w w3) := HBW.out.trans (B3.out.mono HBW.out.size)
  have S3 : Hid (Six w3 w.heap.size AV NV LV SV BV CV) := H6.out.below B3.out (by rw [HSZ.out]; omega)
  clear hb B2 G2 S2
  cases b with
  | false =>
    clear hv
    go_wp2
    go_ret
    exact ⟨rfl, G3.out⟩
  | true =>
  obtain ⟨n, hsn, hn, hk, hu⟩ := hv rfl
  clear hv
  subst hsn
  have HK : Hid _ := And.intro hk hu
  clear hk hu
  go_wp2_with (first
    | (refine wpList_load_box (by rfl) 30 _ (by rfl) _ (by rfl) LV _ S3.out.2.2.1 Try.underlying30 rfl HZ.out.2.2.1 ?_))
  have T := clone_any LV L w3 (HA.out.2.2.1.below G3.out) (fun i hi => Nat.le_trans (leaf_le L C i hi) (Nat.le_trans HTT.out (by decide)))
  refine T.mono ?_
  clear T
  rintro e w4 ⟨LV2, rfl, hf, hb⟩
  have B4 : Hid (Below W.heap.size W w4) := B3.out.trans (hb.mono B3.out.size)
  have S4 : Hid (Six w4 w.heap.size AV NV LV SV BV CV) := H6.out.below B4.out (by rw [HSZ.out]; omega)
  have T4 : Hid (w4.there (w.heap.size + 2) 0 LV2.size) := there_of ((B4.out.block _ (by rw [HSZ.out]; omega)).trans HH2.out) (by rw [HA.out.2.2.1.1, hf.1])
  have Z4 : Hid ((Try.prog.info? 30).map (·.size) = some LV2.size) := by show _ = _; rw [hf.1]; exact tsize30
  have O4 : Hid (LV2.all (·.oneCell') = true) := hf.one
  have M4 : Hid (w.heap.size + 6 ≤ w3.heap.size ∧ w3.heap.size ≤ w4.heap.size) := ⟨by have := B3.out.size; rw [HSZ.out] at this; exact this, hb.size⟩
  have F4 : Hid (Fresh (w.heap.size + 6) (w4.setCells (w.heap.size + 2) 0 LV2.toList) LV2 16 L) := by
    refine Fresh.kept (w := w4) ⟨hf.1, fun i hi => ?_⟩ (fun b hb1 hb2 => (heap_setCells _ b (by omega) _ _ _).1) (by rw [(heap_setCells (w.heap.size + 2) 0 (by omega) LV2.toList 0 w4).2]; exact Nat.le_refl _)
    obtain ⟨v, hv, hr⟩ := hf.2 i hi
    exact ⟨v, hv, hr.weaken (fun b _ hb => Nat.le_trans M4.out.1 hb)⟩
  have S5 : Hid (Six (w4.setCells (w.heap.size + 2) 0 LV2.toList) w.heap.size AV NV LV2 SV BV CV) := by
    refine ⟨S4.out.1.other (by omega) _, S4.out.2.1.other (by omega) _, fun i v hv => ?_, S4.out.2.2.2.1.other (by omega) _, S4.out.2.2.2.2.1.other (by omega) _, S4.out.2.2.2.2.2.other (by omega) _⟩
    have := World.rangeAt_setCells_same w4 (w.heap.size + 2) 0 LV2.toList (by simpa using T4.out) i v (by simpa using hv)
    rw [Nat.zero_add] at this
    exact this
  have G5 : Hid (Below w.heap.size w (w4.setCells (w.heap.size + 2) 0 LV2.toList)) := below_setCells _ (by omega) _ _ _ (HBW.out.trans (B4.out.mono HBW.out.size))
  have H5 : Hid ((w4.setCells (w.heap.size + 2) 0 LV2.toList).heap[w.heap.size + 5]? = some (.cells CV 33 (0, 0))) := ((heap_setCells _ _ (by omega) _ _ _).1).trans ((B4.out.block _ (by rw [HSZ.out]; omega)).trans HH5.out)
  have M5 : Hid ((w4.setCells (w.heap.size + 2) 0 LV2.toList).heap.size = w4.heap.size) := (heap_setCells (w.heap.size + 2) 0 (by omega) LV2.toList 0 w4).2
  clear hf hb B3 G3 S3
  go_wp2_with (first
    | (refine wpList_load_box (by rfl) 33 _ (by rfl) _ (by rfl) CV _ S5.out.2.2.2.2.2 Try.underlying33 rfl HZ.out.2.2.2.2.2 ?_)
    | (refine wpList_store_mid (by rfl) 30 _ _ (by rfl) _ 0 LV2 (by rfl) (by rfl) T4.out Z4.out O4.out ?_))
  obtain ⟨w5, hw5⟩ : ∃ w5, w5 = w4.setCells (w.heap.size + 2) 0 LV2.toList := ⟨_, rfl⟩
  rw [← hw5] at F4 S5 G5 H5 M5 ⊢
  clear hw5
  have T := clone2_any CV C w5 (HA.out.2.2.2.2.2.below G5.out) (fun i j hi hj => Nat.le_trans (sumTo_one (fun j => (C i j).length) j 16 hj) (Nat.le_trans (child_le L C i j hi hj) (Nat.le_trans HTT.out (by decide))))
  refine T.mono ?_
  clear T
  rintro e w6 ⟨CV2, rfl, hf, hb⟩
  have Z6 : Hid ((Try.prog.info? 33).map (·.size) = some CV2.size) := by show _ = _; rw [hf.1]; exact tsize33
  have O6 : Hid (CV2.all (·.oneCell') = true) := hf.one
  have M6 : Hid (w.heap.size + 6 ≤ w5.heap.size) := by show _ ≤ _; rw [M5.out]; exact Nat.le_trans M4.out.1 M4.out.2
  have T6 : Hid (w6.there (w.heap.size + 5) 0 CV2.size) := there_of ((hb.block _ (by have := M6.out; omega)).trans H5.out) (by rw [HA.out.2.2.2.2.2.1, hf.1])
  have S6 : Hid (Six w6 w.heap.size AV NV LV2 SV BV CV) := S5.out.below hb M6.out
  have F6 : Hid (Fresh (w.heap.size + 6) (w6.setCells (w.heap.size + 5) 0 CV2.toList) CV2 256 (fun q => C (q / 16) (q % 16))) := by
    refine Fresh.kept (w := w6) ⟨hf.1, fun i hi => ?_⟩ (fun b hb1 hb2 => (heap_setCells _ b (by omega) _ _ _).1) (by rw [(heap_setCells (w.heap.size + 5) 0 (by omega) CV2.toList 0 w6).2]; exact Nat.le_refl _)
    obtain ⟨v, hv, hr⟩ := hf.2 i hi
    exact ⟨v, hv, hr.weaken (fun b _ hb => Nat.le_trans M6.out hb)⟩
  have F7 : Hid (Fresh (w.heap.size + 6) (w6.setCells (w.heap.size + 5) 0 CV2.toList) LV2 16 L) := by
    refine Fresh.kept (w := w6) (F4.out.kept (fun b _ hlt => hb.block b hlt) hb.size) (fun b hb1 hb2 => (heap_setCells _ b (by omega) _ _ _).1) (by rw [(heap_setCells (w.heap.size + 5) 0 (by omega) CV2.toList 0 w6).2]; exact Nat.le_refl _)
  have S7 : Hid (Six (w6.setCells (w.heap.size + 5) 0 CV2.toList) w.heap.size AV NV LV2 SV BV CV2) := by
    refine ⟨S6.out.1.other (by omega) _, S6.out.2.1.other (by omega) _, S6.out.2.2.1.other (by omega) _, S6.out.2.2.2.1.other (by omega) _, S6.out.2.2.2.2.1.other (by omega) _, fun i v hv => ?_⟩
    have := World.rangeAt_setCells_same w6 (w.heap.size + 5) 0 CV2.toList (by simpa using T6.out) i v (by simpa using hv)
    rw [Nat.zero_add] at this
    exact this
  have G7 : Hid (Below w.heap.size w (w6.setCells (w.heap.size + 5) 0 CV2.toList)) := below_setCells _ (by omega) _ _ _ (G5.out.trans (hb.mono (by have := M6.out; omega)))
  have M7 : Hid (w.heap.size + 6 ≤ (w6.setCells (w.heap.size + 5) 0 CV2.toList).heap.size) := by show _ ≤ _; rw [(heap_setCells (w.heap.size + 5) 0 (by omega) CV2.toList 0 w6).2]; exact Nat.le_trans M6.out hb.size
  clear hf hb S5 G5 H5 M5 F4 S4 B4 M4
  go_wp2_with (first
    | (refine wpList_load_box (by rfl) 30 _ (by rfl) _ (by rfl) LV2 _ S7.out.2.2.1 Try.underlying30 rfl Z4.out ?_)
    | (refine wpList_load_box (by rfl) 31 _ (by rfl) _ (by rfl) SV _ S7.out.2.2.2.1 Try.underlying31 rfl HZ.out.2.2.2.1 ?_)
    | (refine wpList_load_box (by rfl) 33 _ (by rfl) _ (by rfl) CV2 _ S7.out.2.2.2.2.2 Try.underlying33 rfl Z6.out ?_)
    | (refine wpList_store_mid (by rfl) 33 _ _ (by rfl) _ 0 CV2 (by rfl) (by rfl) T6.out Z6.out O6.out ?_))
  obtain ⟨w7, hw7⟩ : ∃ w7, w7 = w6.setCells (w.heap.size + 5) 0 CV2.toList := ⟨_, rfl⟩
  rw [← hw7] at F6 F7 S7 G7 M7 ⊢
  clear hw7
  have hcs : low = false → ∀ q, q < n → 0 ≤ cs q ∧ cs q ≤ 16 := fun e q hq => by
    have := HK.out.1 q hq
    subst e
    obtain ⟨J, h1, h2, h3, _⟩ := this
    omega
  have HLN : Hid ((ents low L cs C n).length ≤ 131072) := Nat.le_trans (ents_le low L cs C n hn (fun e q hq => (hcs e q hq).2)) HTT.out
  have T := ents_any n low LV2 SV CV2 L cs C w7 hn F7.out.arr HA.out.2.2.2.1 F6.out.arr hcs (Nat.le_trans HLN.out (by decide))
  refine T.mono ?_
  clear T hcs
  rintro e w8 ⟨v, rfl, hr, hb⟩
  have S8 : Hid (Six w8 w.heap.size AV NV LV2 SV BV CV2) := S7.out.below hb M7.out
  have A8 : Hid (Arr w8 LV2 16 L ∧ Arr w8 CV2 256 (fun q => C (q / 16) (q % 16))) := ⟨F7.out.arr.below hb, F6.out.arr.below hb⟩
  have G8 : Hid (Below w.heap.size w w8) := G7.out.trans (hb.mono (by have := M7.out; omega))
  obtain ⟨zs, HZS⟩ : ∃ zs, Hid (zs = ents low L cs C n) := ⟨_, rfl⟩
  rw [← HZS.out] at hr HLN
  obtain ⟨a, c, rfl, hcap, hp⟩ := hr
  obtain ⟨m, HM⟩ : ∃ m, Hid (m = zs.length) := ⟨_, rfl⟩
  rw [← HM.out] at hcap hp HLN ⊢
  have hm : m ≤ 131072 := HLN.out
  have HP : Hid _ := hp
  clear hb hp S7 F6 F7 G7 M7 S6 T6 O6 O4 T4 M6
  go_wp2_with fail
  go_loop [22, 23] (fun tq tk => ∃ (k q : Nat), k ≤ m ∧ q ≤ k ∧ tk = .int .i64 (k : Int) ∧ tq = .int .i64 (q : Int) ∧ Hid (q = cnt x (zs.take k))) (fun _ tk => m - (intOf tk).toNat)
  case atStart => exact ⟨0, 0, by omega, by omega, rfl, rfl, rfl⟩
  case round =>
    obtain ⟨k, q, hk, hq, rfl, rfl, HQ⟩ := hrel
    by_cases hlt : k < m
    case pos =>
      obtain ⟨b, o, rfl, _, _, hc⟩ := HP.out (by omega)
      obtain ⟨y, HY⟩ : ∃ y, Hid (zs.getD k 0 = y) := ⟨_, rfl⟩
      have hcell := hc k hlt
      rw [HY.out] at hcell
      have hlt' : (k : Int) < (m : Int) := by omega
      have HC : Hid (cnt x (zs.take (k + 1)) = q + (if y < x then 1 else 0)) := by
        show _ = _
        have e : zs.take (k + 1) = zs.take k ++ [y] := by
          rw [List.take_add_one, ← HY.out]
          simp [show k < zs.length from by rw [← HM.out]; exact hlt]
        rw [e, cnt_append, ← HQ.out, cnt_cons, cnt_nil]
        omega
      clear hc
      by_cases hyx : y < x
      · have hd : decide (y < x) = true := by simpa using hyx
        have HC2 : Hid (q + 1 = cnt x (zs.take (k + 1))) := by show _ = _; rw [HC.out, if_pos hyx]
        clear hyx
        go_wp2
        go_round
        case rel => exact ⟨k + 1, q + 1, by omega, by omega, by go_num, by go_num, HC2⟩
        case measure => simp [intOf]; omega
      · have hd : decide (y < x) = false := by simpa using hyx
        have HC2 : Hid (q = cnt x (zs.take (k + 1))) := by show _ = _; rw [HC.out, if_neg hyx]; omega
        clear hyx
        go_wp2
        go_round
        case rel => exact ⟨k + 1, q, by omega, by omega, by go_num, by go_num, HC2⟩
        case measure => simp [intOf]; omega
    case neg =>
      have HE : Hid (q = cnt x (ents low L cs C n)) := by
        show _ = _
        rw [HQ.out, ← HZS.out, List.take_of_length_le (by rw [← HM.out]; omega)]
      go_wp2_with (first
    | (refine wpList_load_box (by rfl) 27 _ (by rfl) _ (by rfl) AV _ S8.out.1 Try.underlying27 rfl HZ.out.1 ?_)
    | (refine wpList_load_box (by rfl) 28 _ (by rfl) _ (by rfl) NV _ S8.out.2.1 Try.underlying28 rfl HZ.out.2.1 ?_)
    | (refine wpList_load_box (by rfl) 30 _ (by rfl) _ (by rfl) LV2 _ S8.out.2.2.1 Try.underlying30 rfl Z4.out ?_)
    | (refine wpList_load_box (by rfl) 31 _ (by rfl) _ (by rfl) SV _ S8.out.2.2.2.1 Try.underlying31 rfl HZ.out.2.2.2.1 ?_)
    | (refine wpList_load_box (by rfl) 32 _ (by rfl) _ (by rfl) BV _ S8.out.2.2.2.2.1 Try.underlying32 rfl HZ.out.2.2.2.2.1 ?_)
    | (refine wpList_load_box (by rfl) 33 _ (by rfl) _ (by rfl) CV2 _ S8.out.2.2.2.2.2 Try.underlying33 rfl Z6.out ?_))
      have T := tree_any count n low AV NV LV2 SV BV CV2 la co L cs cl C x w8 (cnt x (ents low L cs C n)) HA.out.1 HA.out.2.1 A8.out.1 HA.out.2.2.2.1 HA.out.2.2.2.2.1 A8.out.2 (law_plain n low la co L cs cl C x hn HK.out.1 HK.out.2 HTT.out)
      rw [← HE.out] at T
      refine T.mono ?_
      clear T
      rintro e w9 ⟨rfl, hb⟩
      have G9 : Hid (Below w.heap.size w w9) := G8.out.trans (hb.mono G8.out.size)
      clear hb
      go_wp2
      go_ret
      exact ⟨by simp, G9.out⟩

end Go.Proofs.Qxb6604322a.Tree
