/-
  slices.Sort over any slice (19), NewReadView (8): the walks.
-/
import Derived.Test.Qxb6605226aViewB
import Derived.Test.Qxb6605226aSrtTop
import Derived.Deep.RegionWith
import Derived.Deep.MidRow
namespace Go.Proofs.Qxb6605226a.View
open Go.ChangeShapes Go.WideShapes Go.ChangeAt Go.RowKit Mem Go.Shelf Go.Lib Go.Sort Srt
set_option linter.unusedVariables false
set_option linter.unusedSimpArgs false

theorem ins_nil (w : World) : Calls Try.prog 26 #[.slice none 0 0, .int .i64 0, .int .i64 0] w fun e w' => e = .returned (.tuple #[]) ∧ w' = w := by
  go_enter Try.func26, Try.ntmps26
  go_wp2_with fail
  go_loop [6, 7] (fun t _ => t = .int .i64 1) (fun _ _ => 0)
  case atStart => rfl
  case round =>
    subst hrel
    go_wp2
    go_end0
    exact ⟨rfl, rfl⟩

set_option maxHeartbeats 1000000 in
set_option maxRecDepth 100000 in
theorem pdq_nil (w : World) : Calls Try.prog 22 #[.slice none 0 0, .int .i64 0, .int .i64 0, .int .i64 0] w fun e w' => e = .returned (.tuple #[]) ∧ w' = w := by
  go_enter Try.func22, Try.ntmps22
  go_wp2_with fail
  go_loop [1, 2, 3, 8, 9] (fun a b _ _ _ => a = .int .i64 0 ∧ b = .int .i64 0) (fun _ _ _ _ _ => 0)
  case atStart => exact ⟨rfl, rfl⟩
  case round =>
    obtain ⟨rfl, rfl⟩ := hrel
    go_wp2_with fail
    refine (ins_nil w).mono ?_
    rintro e w' ⟨rfl, hw⟩
    have hw2 := hw.symm
    subst hw2
    go_wp2
    (try simp only [Exit.inBlock, Exit.then]); refine bodyPost_ret (results_none rfl _ _ _) rfl ?_
    exact ⟨rfl, rfl⟩

set_option maxHeartbeats 1000000 in
theorem sort_nil (w : World) : Calls Try.prog 19 #[.slice none 0 0] w fun e w' => e = .returned (.tuple #[]) ∧ w' = w := by
  have hLen : ∀ w, Calls Try.prog 23 #[.int .u64 0] w fun e w' => e = .returned (.int .i64 0) ∧ w' = w := fun w => by
    have h := bits_Len 0 w (by omega) (by omega)
    exact h
  go_enter Try.func19, Try.ntmps19
  go_wp2_with (first
    | (go_at_call 23; refine (hLen _).mono ?_; rintro e w' ⟨rfl, rfl⟩)
    | (go_at_call 22; refine (pdq_nil _).mono ?_; rintro e w' ⟨rfl, rfl⟩))
  go_end0
  exact ⟨rfl, rfl⟩

/-- In ascending order. -/
def sorted (zs : List Int) : List Int := zs.mergeSort (fun x y => decide (x ≤ y))

theorem sorted_len (zs : List Int) : (sorted zs).length = zs.length := List.length_mergeSort zs

theorem sort_hv (B : Nat) (v : Value) (zs : List Int) (w : World) (h : HV B w v zs) (hl : zs.length ≤ 2000000) (hB : B ≤ w.heap.size) :
    Calls Try.prog 19 #[v] w (fun e w' => e = .returned (.tuple #[]) ∧ HV B w' v (sorted zs) ∧ Below B w w') := by
  rcases h with ⟨rfl, rfl⟩ | ⟨b, C, rfl, hb, hlt, hc, hH⟩
  · refine (sort_nil w).mono ?_
    rintro e w' ⟨rfl, rfl⟩
    exact ⟨rfl, .inl ⟨rfl, by simp [sorted]⟩, Below.refl _ _⟩
  · refine (sort_any b 0 C zs w hH hlt (by omega)).mono ?_
    rintro e w' ⟨rfl, n, os, rfl⟩
    refine ⟨rfl, .inr ⟨b, C, by rw [sorted_len], hb, by simp; omega, by rw [sorted_len]; exact hc, ?_⟩, below_put encU n b 0 _ os hb hB⟩
    exact holds_grow encU _ os b 0 _ (by simpa using hlt) (holds_putRow encU _ b 0 zs.toArray _ (holds_ahead encU w n b 0 zs.toArray hH) (by simp [sorted_len, sorted]))

/-- The result that lies in a box. -/
theorem results_box {P : Program} {fn : Func} {p : Tmp} {ty : TypeId} (h : fn.results = #[.cell p ty]) (tmps : Array Value) (w : World) (b : Nat) (A : Array Value) (d : TypeDesc)
    (hp : tmps.getD p undef = .pointer (some ⟨b, 0, none⟩)) (hc : w.rangeAt b 0 A.toList) (hu : P.underlying ty = some d) (hd : d.isRow = true) (hi : (P.info? ty).map (·.size) = some A.size) :
    (results fn tmps).run P w = .ok (.agg A) w := by
  have hp' : tmps[p]?.getD undef = .pointer (some ⟨b, 0, none⟩) := by simpa using hp
  have hl := run_loadVar_mid (P := P) w b 0 ty A.toList d hc hu hd (by simpa using hi)
  simp [results, h, hp', asAddr, hl]

theorem below_setCells {B : Nat} {a : World} (b : Nat) (hb : B ≤ b) : ∀ (vs : List Value) (o : Nat) (w : World), Below B a w → Below B a (w.setCells b o vs)
  | [], _, _, h => h
  | v :: r, o, w, h => by
    rw [World.setCells]
    exact below_setCells b hb r (o + 1) _ (h.setCell hb v)

theorem heap_setCells (b x : Nat) (hx : x ≠ b) : ∀ (vs : List Value) (o : Nat) (w : World), (w.setCells b o vs).heap[x]? = w.heap[x]? ∧ (w.setCells b o vs).heap.size = w.heap.size
  | [], _, _ => ⟨rfl, rfl⟩
  | v :: r, o, w => by
    rw [World.setCells]
    obtain ⟨h1, h2⟩ := heap_setCells b x hx r (o + 1) (w.setCell ⟨b, o, none⟩ v)
    exact ⟨h1.trans (Below.heap_setCell w _ v x hx), h2.trans (by simp [World.setCell])⟩

theorem there_of {w : World} {b n : Nat} {A : Array Value} {t : TypeId} (h : w.heap[b]? = some (.cells A t (0, 0))) (hn : A.size = n) : w.there b 0 n := fun j hj => by
  rw [Nat.zero_add, cell_of_row w b j A t (0, 0) h]
  exact ⟨by rw [Array.getElem?_eq_getElem (by omega)]; rfl, frozen_of_row w b j A t h⟩

theorem tsize29 : (Try.prog.info? 29).map (·.size) = some 4 := by kernel_rfl

/-- The zero view. -/
def zview : Array Value := #[.int .u64 0, .slice none 0 0, .int .u64 0, .int .u64 0]

/-- The view's active list. -/
def act (own : Int) (zs : List Int) : List Int := sorted (others own zs)

def ViewPost (own next : Int) (zs : List Int) (w : World) (e : Ending) (w' : World) : Prop :=
  ∃ v', e = .returned (.agg #[.int .u64 own, v', .int .u64 ((act own zs).headD next), .int .u64 next]) ∧ HV w.heap.size w' v' (act own zs) ∧ (act own zs = [] → v' = .slice none 0 0) ∧ Below w.heap.size w w'

theorem others_len (own : Int) (zs : List Int) : (others own zs).length ≤ zs.length := List.length_filter_le _ _

set_option maxHeartbeats 2000000 in
set_option maxRecDepth 100000 in
theorem view_any (own next : Int) (B : Nat) (v : Value) (zs : List Int) (w : World) (h : HV B w v zs) (hl : zs.length ≤ 2000000) :
    Calls Try.prog 8 #[.int .u64 own, v, .int .u64 next] w (ViewPost own next zs w) := by
  have HH : Hid _ := h
  clear h
  obtain ⟨W, hW⟩ : ∃ W, W = (w.alloc (.cells #[.int .u64 own] 27)).alloc (.cells zview 29) := ⟨_, rfl⟩
  have HBW : Hid (Below w.heap.size w W) := by rw [hW]; exact ((Below.refl _ _).alloc (Nat.le_refl _) _).alloc (by simp) _
  have HSZ : Hid (W.heap.size = w.heap.size + 2) := by show _ = _; rw [hW]; simp
  have HCE : Hid (W.cell? ⟨w.heap.size, 0, none⟩ = some (.int .u64 own)) := by
    show _ = _
    rw [hW, cell_of_row _ _ 0 #[.int .u64 own] 27 (0, 0) (by rw [Below.heap_alloc _ _ _ (by simp)]; exact heap_alloc_new w _)]; rfl
  have HRB : Hid (W.heap[w.heap.size + 1]? = some (.cells zview 29 (0, 0))) := by
    show _ = _
    rw [hW]
    have := heap_alloc_new (w.alloc (.cells #[.int .u64 own] 27)) (.cells zview 29)
    simpa using this
  have HVW : Hid (HV B W v zs) := HV.kept HH.out (fun b _ hb => HBW.out.block b hb) HBW.out.size
  have HCL : Hid (∀ W2, Below W.heap.size W W2 → Calls Try.prog 17 #[v] W2 (fun e w' => ∃ v1, e = .returned v1 ∧ Hid (HV W.heap.size w' v1 zs ∧ Below W.heap.size W w'))) := fun W2 h2 => by
    refine (clone_hv B v zs W2 (HVW.out.kept (fun b _ hb => h2.block b hb) h2.size) hl).mono ?_
    rintro e w' ⟨v1, rfl, h3, h4⟩
    exact ⟨v1, rfl, h3.low h2.size, h2.trans (h4.mono h2.size)⟩
  have HDL : Hid (∀ v1 W2, HV W.heap.size W2 v1 zs → Below W.heap.size W W2 → Calls Try.prog 16 #[v1, .func (.func 18) #[] #[.pointer (some ⟨w.heap.size, 0, none⟩)]] W2 (fun e w' => ∃ v2, e = .returned v2 ∧ Hid (HV W.heap.size w' v2 (others own zs) ∧ Below W.heap.size W w'))) := fun v1 W2 h1 h2 => by
    have hlt : w.heap.size < W.heap.size := by rw [HSZ.out]; omega
    refine (delete_hv own W.heap.size w.heap.size v1 zs W2 h1 hl (Nat.lt_of_lt_of_le hlt h2.size) hlt ((h2.cell (by simpa using hlt)).trans HCE.out)).mono ?_
    rintro e w' ⟨v2, rfl, h3, h4⟩
    exact ⟨v2, rfl, h3, h2.trans h4⟩
  go_enter Try.func8, Try.ntmps8
  go_wp2_with fail
  unfold zview at hW
  rw [← hW]
  clear hW
  refine (HCL.out W (Below.refl _ _)).mono ?_
  rintro e w1 ⟨v1, rfl, F1⟩
  go_wp2_with fail
  refine (HDL.out v1 w1 F1.out.1 F1.out.2).mono ?_
  rintro e w2 ⟨v2, rfl, F2⟩
  clear HCL HDL F1 HVW
  go_wp2_with fail
  have T := sort_hv W.heap.size v2 (others own zs) w2 F2.out.1 (Nat.le_trans (others_len own zs) hl) F2.out.2.size
  refine T.mono ?_
  clear T
  rintro e w3 ⟨rfl, h3, h4⟩
  have F3 : Hid (HV W.heap.size w3 v2 (act own zs) ∧ Below W.heap.size W w3) := ⟨h3, F2.out.2.trans h4⟩
  have G3 : Hid (Below w.heap.size w w3) := HBW.out.trans (F3.out.2.mono HBW.out.size)
  have c0 : w3.cell? ⟨w.heap.size, 0, none⟩ = some (.int .u64 own) := (F3.out.2.cell (by rw [HSZ.out]; simp)).trans HCE.out
  clear h3 h4 F2
  have HLA : Hid ((act own zs).length ≤ 2000000) := by
    show _ ≤ _
    unfold act
    rw [sorted_len]
    exact Nat.le_trans (others_len own zs) hl
  obtain ⟨A, HA⟩ : ∃ A, Hid (A = act own zs) := ⟨_, rfl⟩
  rw [← HA.out] at F3 HLA
  have HPO : Hid (∀ e w', ViewPost own next zs w e w' ↔ ∃ v', e = .returned (.agg #[.int .u64 own, v', .int .u64 (A.headD next), .int .u64 next]) ∧ HV w.heap.size w' v' A ∧ (A = [] → v' = .slice none 0 0) ∧ Below w.heap.size w w') := fun e w' => by rw [HA.out]; exact Iff.rfl
  have HLO : Hid (w.heap.size + 2 ≤ W.heap.size) := by show _ ≤ _; rw [HSZ.out]; exact Nat.le_refl _
  have HR3 : Hid (w3.heap[w.heap.size + 1]? = some (.cells zview 29 (0, 0))) := (F3.out.2.block _ (by rw [HSZ.out]; omega)).trans HRB.out
  have HTH : Hid (w3.there (w.heap.size + 1) 0 4) := there_of HR3.out rfl
  have HEN : Hid (∀ v' l, v'.oneCell' = true → HV (w.heap.size + 2) w3 v' A → (A = [] → v' = .slice none 0 0) → l = A.headD next →
      ViewPost own next zs w (.returned (.agg #[.int .u64 own, v', .int .u64 l, .int .u64 next])) (w3.setCells (w.heap.size + 1) 0 [.int .u64 own, v', .int .u64 l, .int .u64 next])) := fun v' l _ h1 h2 h3 => by
    refine (HPO.out _ _).2 ⟨v', by rw [h3], ?_, h2, below_setCells _ (by omega) _ _ _ G3.out⟩
    exact (h1.kept (fun b hb _ => (heap_setCells _ b (by omega) _ _ _).1) (by rw [(heap_setCells (w.heap.size + 1) 0 (by omega) _ 0 w3).2]; exact Nat.le_refl _)).low (by omega)
  have HO : Hid (∀ v' l, v'.oneCell' = true → (#[.int .u64 own, v', .int .u64 l, .int .u64 next] : Array Value).all (·.oneCell') = true) := fun v' l h => by
    refine Array.all_eq_true_iff_forall_mem.2 (fun u hu => ?_)
    simp at hu
    rcases hu with rfl | rfl | rfl | rfl
    · rfl
    · exact h
    · rfl
    · rfl
  rcases F3.out.1 with ⟨hv, hA⟩ | ⟨b, C, hv, hb, hlt, hc, hH⟩
  · subst hv
    subst hA
    go_wp2_with (refine wpList_store_mid (by rfl) 29 _ _ (by rfl) _ 0 #[.int .u64 own, .slice none 0 0, .int .u64 next, .int .u64 next] (by rfl) (by rfl) HTH.out tsize29 (HO.out _ _ rfl) ?_)
    refine bodyPost_ret (results_box (by rfl) _ _ (w.heap.size + 1) #[.int .u64 own, .slice none 0 0, .int .u64 next, .int .u64 next] _ (by rfl) (World.rangeAt_setCells_same _ _ _ _ (by simpa using HTH.out)) Try.underlying29 rfl tsize29) rfl ?_
    exact HEN.out (.slice none 0 0) next rfl (.inl ⟨rfl, rfl⟩) (fun _ => rfl) rfl
  · have hm := HLA.out
    cases A with
    | nil =>
      subst hv
      clear hH
      go_wp2_with (refine wpList_store_mid (by rfl) 29 _ _ (by rfl) _ 0 #[.int .u64 own, .slice none 0 0, .int .u64 next, .int .u64 next] (by rfl) (by rfl) HTH.out tsize29 (HO.out _ _ rfl) ?_)
      refine bodyPost_ret (results_box (by rfl) _ _ (w.heap.size + 1) #[.int .u64 own, .slice none 0 0, .int .u64 next, .int .u64 next] _ (by rfl) (World.rangeAt_setCells_same _ _ _ _ (by simpa using HTH.out)) Try.underlying29 rfl tsize29) rfl ?_
      exact HEN.out (.slice none 0 0) next rfl (.inl ⟨rfl, rfl⟩) (fun _ => rfl) rfl
    | cons y ys =>
      have hc0 := (hH 0 (by simp)).1
      rw [toArray_get] at hc0
      have hc1 : w3.cell? ⟨b, 0, none⟩ = some (.int .u64 y) := by simpa using hc0
      obtain ⟨m, HM⟩ : ∃ m, Hid (m = (y :: ys).length) := ⟨_, rfl⟩
      have hm0 : 0 < m := by rw [HM.out]; simp
      rw [← HM.out] at hv hm
      subst hv
      clear hc0 hH hc
      go_wp2_with (refine wpList_store_mid (by rfl) 29 _ _ (by rfl) _ 0 #[.int .u64 own, .slice (some ⟨b, 0, none⟩) m C, .int .u64 y, .int .u64 next] (by rfl) (by rfl) HTH.out tsize29 (HO.out _ _ rfl) ?_)
      refine bodyPost_ret (results_box (by rfl) _ _ (w.heap.size + 1) #[.int .u64 own, .slice (some ⟨b, 0, none⟩) m C, .int .u64 y, .int .u64 next] _ (by rfl) (World.rangeAt_setCells_same _ _ _ _ (by simpa using HTH.out)) Try.underlying29 rfl tsize29) rfl ?_
      exact HEN.out (.slice (some ⟨b, 0, none⟩) m C) y rfl (F3.out.1.low HLO.out) (fun h => by cases h) rfl

end Go.Proofs.Qxb6605226a.View
