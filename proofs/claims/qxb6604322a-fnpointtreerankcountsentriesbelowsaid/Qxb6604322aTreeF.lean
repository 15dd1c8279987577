/-
  zzCopy64 over any slice (24), zzCloneLeaves (17), zzCloneChildLeaves (18): the walks.
-/
import Derived.Test.Qxb6604322aTreeE
import Derived.Test.Qxb6604322aCopies
namespace Go.Proofs.Qxb6604322a.Tree
open Go.ChangeShapes Go.WideShapes Go.ChangeAt Go.RowKit Mem
set_option linter.unusedVariables false
set_option linter.unusedSimpArgs false

theorem copy_none (c : Nat) (w : World) : Calls Try.prog 24 #[.slice none 0 c] w fun e w' => e = .returned (.slice none 0 0) ∧ w' = w := by
  have hnil := fun w => Lib.run_eql_slice_nil (P := Try.prog) w 29 26 none 0 c 0 0 Try.underlying29
  go_enter Try.func24, Try.ntmps24
  go_wp2
  go_ret
  exact ⟨rfl, rfl⟩

/-- What zzCopy64 hands back: a slice that reads the same, in a block of its own (or nil). -/
def CopyPost (zs : List Int) (w : World) (e : Ending) (w' : World) : Prop := ∃ v, e = .returned v ∧ RdS (fun b => w.heap.size ≤ b) .u64 w' v zs ∧ Below w.heap.size w w'

theorem copy_any (v : Value) (zs : List Int) (w : World) (hs : RdS (fun _ => True) .u64 w v zs) (hl : zs.length ≤ 1048576) :
    Calls Try.prog 24 #[v] w (CopyPost zs w) := by
  obtain ⟨a, c, rfl, hcap, hp⟩ := hs
  cases a with
  | none =>
    have h0 : zs.length = 0 := by
      by_cases h : 0 < zs.length
      · obtain ⟨b, off, h1, _⟩ := hp h; cases h1
      · omega
    have hz : zs = [] := List.length_eq_zero_iff.1 h0
    subst hz
    refine (copy_none c w).mono ?_
    rintro e w1 ⟨rfl, rfl⟩
    exact ⟨_, rfl, ⟨none, 0, rfl, Nat.le_refl _, fun h => by simp at h⟩, Below.refl _ _⟩
  | some x =>
    refine (Copies.u64s_any x zs.length c zs w hl ?_).mono ?_
    · intro i hi
      obtain ⟨b, off, h1, _, _, hc⟩ := hp (by omega)
      cases h1
      rw [add_plain]
      exact hc i hi
    · rintro e w1 ⟨rfl, hrow, hb, hsz⟩
      refine ⟨_, rfl, ⟨_, _, rfl, Nat.le_refl _, fun h => ⟨w.heap.size, 0, rfl, Nat.le_refl _, by omega, fun i hi => ?_⟩⟩, hb⟩
      rw [Nat.zero_add]
      exact hrow.cell hi

/-- What zzCloneLeaves hands back. -/
def Fresh (B : Nat) (w : World) (A : Array Value) (n : Nat) (f : Nat → List Int) : Prop := A.size = n ∧ ∀ i, i < n → ∃ v, A[i]? = some v ∧ RdS (fun b => B ≤ b) .u64 w v (f i)

theorem Fresh.arr {B : Nat} {w : World} {A : Array Value} {n : Nat} {f : Nat → List Int} (h : Fresh B w A n f) : Arr w A n f :=
  ⟨h.1, fun i hi => by
    obtain ⟨v, hv, hr⟩ := h.2 i hi
    exact ⟨v, hv, hr.weaken (fun _ _ _ => True.intro)⟩⟩

def ClonePost (n : Nat) (f : Nat → List Int) (w : World) (e : Ending) (w' : World) : Prop := ∃ A, e = .returned (.agg A) ∧ Fresh w.heap.size w' A n f ∧ Below w.heap.size w w'

theorem rd_set {w : World} {v u : Value} {zs : List Int} {B : Nat} {a : Addr} (h : RdS (fun b => B ≤ b) .u64 w v zs) (ha : a.block < B) : RdS (fun b => B ≤ b) .u64 (w.setCell a u) v zs :=
  h.kept (fun b hb _ => Below.heap_setCell w a u b (by omega)) (by simp [World.setCell])

theorem rd_low {k : IntKind} {w : World} {v : Value} {zs : List Int} {S : Nat → Prop} (h : RdS S k w v zs) : RdS (fun _ => True) k w v zs := h.weaken (fun _ _ _ => True.intro)

/-- What holds at the head of a copying loop: the first k places of the row b are copied. -/
def Cloned (b : Nat) (t : TypeId) (n k : Nat) (f : Nat → List Int) (W wr : World) : Prop :=
  ∃ g : Nat → Value, wr.rowIs b t n g ∧ (∀ q, q < k → RdS (fun x => b + 1 ≤ x) .u64 wr (g q) (f q)) ∧ Below b W wr

theorem Cloned.step {b : Nat} {t : TypeId} {n k : Nat} {f : Nat → List Int} {W wr w1 : World} {v : Value} (h : Cloned b t n k f W wr) (hb : b + 1 ≤ wr.heap.size) (hr : RdS (fun x => wr.heap.size ≤ x) .u64 w1 v (f k)) (hw : Below wr.heap.size wr w1) :
    Cloned b t n (k + 1) f W (w1.setCell ⟨b, k, none⟩ v) := by
  obtain ⟨g, hg, hc, hB⟩ := h
  refine ⟨fun j => if j = k then v else g j, (hg.of_block (hw.block b (by omega))).set k v, fun q hq => ?_, (hB.trans (hw.mono (by omega))).setCell (Nat.le_refl _) _⟩
  by_cases e : q = k
  · subst e
    simp only [if_true]
    exact rd_set (hr.weaken (fun x _ hx => by omega)) (by simp)
  · simp only [if_neg e]
    exact rd_set ((hc q (by omega)).kept (fun x _ hx => hw.block x hx) hw.size) (by simp)

/-- The result that lies in a box. -/
theorem results_box {P : Program} {fn : Func} {p : Tmp} {ty : TypeId} (h : fn.results = #[.cell p ty]) (tmps : Array Value) (w : World) (b : Nat) (A : Array Value) (d : TypeDesc)
    (hp : tmps.getD p undef = .pointer (some ⟨b, 0, none⟩)) (hc : w.rangeAt b 0 A.toList) (hu : P.underlying ty = some d) (hd : d.isRow = true) (hi : (P.info? ty).map (·.size) = some A.size) :
    (results fn tmps).run P w = .ok (.agg A) w := by
  have hp' : tmps[p]?.getD undef = .pointer (some ⟨b, 0, none⟩) := by simpa using hp
  have hl := run_loadVar_mid (P := P) w b 0 ty A.toList d hc hu hd (by simpa using hi)
  simp [results, h, hp', asAddr, hl]

theorem below_setCells {B : Nat} {a : World} (b : Nat) (hb : B ≤ b) : ∀ (vs : List Value) (o : Nat) (w : World), Below B a w → Below B a (w.setCells b o vs)
  | [], _, _, h => h
  | v :: r, o, w, h => by
    rw [World.setCells]
    exact below_setCells b hb r (o + 1) _ (h.setCell hb v)

theorem heap_setCells (b x : Nat) (hx : x ≠ b) : ∀ (vs : List Value) (o : Nat) (w : World), (w.setCells b o vs).heap[x]? = w.heap[x]? ∧ (w.setCells b o vs).heap.size = w.heap.size
  | [], _, _ => ⟨rfl, rfl⟩
  | v :: r, o, w => by
    rw [World.setCells]
    obtain ⟨h1, h2⟩ := heap_setCells b x hx r (o + 1) (w.setCell ⟨b, o, none⟩ v)
    exact ⟨h1.trans (Below.heap_setCell w _ v x hx), h2.trans (by simp [World.setCell])⟩

set_option maxRecDepth 100000 in
set_option maxHeartbeats 4000000 in
theorem clone_any (LV : Array Value) (L : Nat → List Int) (w : World) (h1 : Arr w LV 16 L) (hl : ∀ i, i < 16 → (L i).length ≤ 1048576) :
    Calls Try.prog 17 #[.agg LV] w (ClonePost 16 L w) := by
  have HL := hide2 h1 hl
  clear h1 hl
  go_enter Try.func17, Try.ntmps17
  go_wp2_with fail
  obtain ⟨Z, hZ⟩ : ∃ Z : Array Value, Z = (Array.replicate 16 (.slice none 0 0)) := ⟨_, rfl⟩
  obtain ⟨W, hW⟩ : ∃ W, W = boxAll w [(LV, 30), (Z, 30), (Z, 30)] := ⟨_, rfl⟩
  have HBW : Hid (Below w.heap.size w W) := by show Below _ _ _; rw [hW]; exact boxAll_below _ w
  have HSZ : Hid (W.heap.size = w.heap.size + 3) := by show _ = _; rw [hW]; exact boxAll_size _ w
  have C1 : Hid (∀ i, i < 16 → ∃ v, W.cell? ⟨w.heap.size, i, none⟩ = some v ∧ RdS (fun b => b < w.heap.size) .u64 W v (L i)) := fun i hi => by
    obtain ⟨v, hv, hr⟩ := HL.out.1.2 i hi
    exact ⟨v, by rw [hW]; exact boxAll_cell _ w 0 i LV 30 v rfl hv, (hr.weaken (T := fun b => b < w.heap.size) (fun b hb _ => hb)).kept (fun b hb _ => HBW.out.block b hb) HBW.out.size⟩
  have HCl : Hid (Cloned (w.heap.size + 2) 30 16 0 L W W) := by
    refine ⟨fun _ => .slice none 0 0, ?_, (fun q hq => by omega), Below.refl _ _⟩
    rw [hW]
    have h := World.rowIs_alloc ((w.alloc (.cells LV 30)).alloc (.cells Z 30)) Z 30 (fun _ => .slice none 0 0) (fun i hi => by rw [hZ] at hi ⊢; simp at hi; simp [hi])
    rw [show Z.size = 16 from by rw [hZ]; simp, show ((w.alloc (.cells LV 30)).alloc (.cells Z 30)).heap.size = w.heap.size + 2 from by simp] at h
    exact h
  have HR1 : Hid (W.rowIs (w.heap.size + 1) 30 16 (fun _ => .slice none 0 0)) := by
    show World.rowIs _ _ _ _ _
    rw [hW]
    have h := World.rowIs_alloc (w.alloc (.cells LV 30)) Z 30 (fun _ => .slice none 0 0) (fun i hi => by rw [hZ] at hi ⊢; simp at hi; simp [hi])
    rw [show Z.size = 16 from by rw [hZ]; simp, show (w.alloc (.cells LV 30)).heap.size = w.heap.size + 1 from by simp] at h
    exact h.alloc _
  have hZ' : Z = #[.slice none 0 0, .slice none 0 0, .slice none 0 0, .slice none 0 0, .slice none 0 0, .slice none 0 0, .slice none 0 0, .slice none 0 0, .slice none 0 0, .slice none 0 0, .slice none 0 0, .slice none 0 0, .slice none 0 0, .slice none 0 0, .slice none 0 0, .slice none 0 0] := by rw [hZ]; rfl
  rw [← hZ']
  simp only [boxAll] at hW
  rw [← hW]
  clear hW hZ hZ'
  go_loopw [4] (fun t wr => ∃ i : Nat, i ≤ 16 ∧ t = .int .i64 (i : Int) ∧ Hid (Cloned (w.heap.size + 2) 30 16 i L W wr)) (fun t _ => 16 - (intOf t).toNat)
  case atStart => exact ⟨0, by omega, rfl, HCl⟩
  case round =>
    obtain ⟨i, hi, rfl, HC⟩ := hrel
    obtain ⟨g, hrow, _, hB⟩ := HC.out
    by_cases hlt : i < 16
    case neg =>
      have HE : Hid (i = 16) := by show i = 16; omega
      have hrow1 := HR1.out.of_block (hB.block (w.heap.size + 1) (by omega))
      obtain ⟨g', hrow', hcp, hB'⟩ := HC.out
      rw [HE.out] at hcp
      obtain ⟨A, hA, hAs, hAc⟩ := hrow'
      have HA : Hid (∀ j v, A[j]? = some v → wr.cell? ⟨w.heap.size + 2, j, none⟩ = some v) := fun j v h => by rw [cell_of_row wr _ j A 30 (0, 0) hA]; exact h
      have HS : Hid ((Try.prog.info? 30).map (·.size) = some A.size) := by show _ = _; rw [hAs]; exact tsize30
      have HO : Hid (A.all (·.oneCell') = true) := Array.all_eq_true_iff_forall_mem.2 (fun v hv => by
        obtain ⟨j, hj, rfl⟩ := Array.mem_iff_getElem.1 hv
        obtain ⟨a, c, he, _⟩ := hcp j (by omega)
        have := hAc j (by omega)
        rw [Array.getElem?_eq_getElem hj] at this
        rw [Option.some.inj this, he]; rfl)
      have HTh : Hid (wr.there (w.heap.size + 1) 0 A.size) := fun j hj => by
        rw [Nat.zero_add]
        exact ⟨by rw [hrow1.cell (by omega)]; rfl, hrow1.frozen j⟩
      have HArr : Hid (Fresh w.heap.size (wr.setCells (w.heap.size + 1) 0 A.toList) A 16 L) := ⟨hAs, fun j hj => by
        refine ⟨g' j, hAc j hj, RdS.weaken (T := fun b => w.heap.size ≤ b) ((hcp j hj).kept (fun b hb _ => (heap_setCells _ b (by omega) _ _ _).1) ?_) (fun b _ hb => by omega)⟩
        rw [(heap_setCells (w.heap.size + 1) 0 (by omega) A.toList 0 wr).2]; exact Nat.le_refl _⟩
      have HBe : Hid (Below w.heap.size w (wr.setCells (w.heap.size + 1) 0 A.toList)) := below_setCells _ (by omega) _ _ _ (HBW.out.trans (hB'.mono (by omega)))
      clear hrow1 hcp hB' hA hAs hAc hB hrow
      go_wp2_with (first
        | (refine wpList_load_box (by rfl) 30 _ (by rfl) _ (by rfl) A _ (fun i v h => HA.out i v h) Try.underlying30 rfl HS.out ?_)
        | (refine wpList_store_mid (by rfl) 30 _ _ (by rfl) _ 0 A (by rfl) (by rfl) HTh.out HS.out HO.out ?_))
      refine bodyPost_ret (results_box (by rfl) _ _ (w.heap.size + 1) A _ (by rfl) (World.rangeAt_setCells_same _ _ _ _ (by simpa using HTh.out)) Try.underlying30 rfl HS.out) rfl ?_
      exact ⟨A, rfl, HArr.out, HBe.out⟩
    case pos =>
      obtain ⟨v, k1', r1'⟩ := C1.out i hlt
      have k1 : wr.cell? ⟨w.heap.size, i, none⟩ = some v := (hB.cell (by simp)).trans k1'
      have R1 : Hid (RdS (fun _ => True) .u64 wr v (L i)) := rd_low (r1'.kept (fun b hb _ => hB.block b (by omega)) hB.size)
      have hsz : w.heap.size + 2 + 1 ≤ wr.heap.size := by have := hB.size; rw [HSZ.out] at this; omega
      have hlt' : (i : Int) < 16 := by omega
      clear k1' r1'
      go_wp2_with fail
      have T := copy_any v (L i) wr R1.out (HL.out.2 i hlt)
      refine T.mono ?_
      clear T
      rintro e w1 ⟨v1, rfl, hr, hb⟩
      have hrow1 := hrow.of_block (hb.block (w.heap.size + 2) (by omega))
      have c2 := hrow1.cell hlt
      have f2 := hrow1.frozen i
      have HS : Hid (Cloned (w.heap.size + 2) 30 16 (i + 1) L W (w1.setCell ⟨w.heap.size + 2, i, none⟩ v1)) := HC.out.step hsz hr hb
      obtain ⟨x1, c1, hv1, _⟩ := id hr
      subst hv1
      clear hr hb hrow hrow1 hB
      go_wp2
      go_roundw
      case rel => exact ⟨i + 1, by omega, by go_num, HS⟩
      case measure => simp [intOf]; omega

end Go.Proofs.Qxb6604322a.Tree
