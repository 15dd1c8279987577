/-
  zzCloneChildLeaves (18): the walk.
-/
import Derived.Test.Qxb6604322aTreeF
import Derived.Deep.RegionWith
namespace Go.Proofs.Qxb6604322a.Tree
open Go.ChangeShapes Go.WideShapes Go.ChangeAt Go.RowKit Mem
set_option linter.unusedVariables false
set_option linter.unusedSimpArgs false

def zero256 : Array Value := Array.replicate 256 (.slice none 0 0)

theorem zero33 (w : World) : (zeroValue 33).run Try.prog w = .ok (.agg zero256) w := by kernel_rfl

theorem zero256_at (i : Nat) (h : i < zero256.size) : zero256[i]? = some (.slice none 0 0) := by
  have : i < 256 := by simpa [zero256] using h
  simp [zero256, this]
theorem zero256_size : zero256.size = 256 := by simp [zero256]

set_option maxRecDepth 100000 in
set_option maxHeartbeats 4000000 in
theorem clone2_any (CV : Array Value) (C : Nat → Nat → List Int) (w : World) (h1 : Arr w CV 256 (fun q => C (q / 16) (q % 16))) (hl : ∀ i j, i < 16 → j < 16 → (C i j).length ≤ 1048576) :
    Calls Try.prog 18 #[.agg CV] w (ClonePost 256 (fun q => C (q / 16) (q % 16)) w) := by
  have HL := hide2 h1 hl
  clear h1 hl
  have hz := zero33
  obtain ⟨Z, hZ⟩ : ∃ Z : Array Value, Z = zero256 := ⟨_, rfl⟩
  rw [← hZ] at hz
  go_enter Try.func18, Try.ntmps18
  go_wp2_with fail
  obtain ⟨W, hW⟩ : ∃ W, W = boxAll w [(CV, 33), (Z, 33), (Z, 33)] := ⟨_, rfl⟩
  have HBW : Hid (Below w.heap.size w W) := by show Below _ _ _; rw [hW]; exact boxAll_below _ w
  have HSZ : Hid (W.heap.size = w.heap.size + 3) := by show _ = _; rw [hW]; exact boxAll_size _ w
  have C1 : Hid (∀ i j, i < 16 → j < 16 → ∃ v, W.cell? ⟨w.heap.size, i * 16 + j, none⟩ = some v ∧ RdS (fun b => b < w.heap.size) .u64 W v (C i j)) := fun i j hi hj => by
    obtain ⟨v, hv, hr⟩ := HL.out.1.2 (i * 16 + j) (by omega)
    simp only at hr
    rw [show (i * 16 + j) / 16 = i from by omega, show (i * 16 + j) % 16 = j from by omega] at hr
    exact ⟨v, by rw [hW]; exact boxAll_cell _ w 0 _ CV 33 v rfl hv, (hr.weaken (T := fun b => b < w.heap.size) (fun b hb _ => hb)).kept (fun b hb _ => HBW.out.block b hb) HBW.out.size⟩
  have HCl : Hid (Cloned (w.heap.size + 2) 33 256 (0 * 16) (fun q => C (q / 16) (q % 16)) W W) := by
    refine ⟨fun _ => .slice none 0 0, ?_, (fun q hq => by omega), Below.refl _ _⟩
    rw [hW]
    have h := World.rowIs_alloc ((w.alloc (.cells CV 33)).alloc (.cells Z 33)) Z 33 (fun _ => .slice none 0 0) (fun i hi => by rw [hZ] at hi ⊢; exact zero256_at i hi)
    rw [show Z.size = 256 from by rw [hZ]; exact zero256_size, show ((w.alloc (.cells CV 33)).alloc (.cells Z 33)).heap.size = w.heap.size + 2 from by simp] at h
    exact h
  have HR1 : Hid (W.rowIs (w.heap.size + 1) 33 256 (fun _ => .slice none 0 0)) := by
    show World.rowIs _ _ _ _ _
    rw [hW]
    have h := World.rowIs_alloc (w.alloc (.cells CV 33)) Z 33 (fun _ => .slice none 0 0) (fun i hi => by rw [hZ] at hi ⊢; exact zero256_at i hi)
    rw [show Z.size = 256 from by rw [hZ]; exact zero256_size, show (w.alloc (.cells CV 33)).heap.size = w.heap.size + 1 from by simp] at h
    exact h.alloc _
  simp only [boxAll] at hW
  rw [← hZ, ← hW]
  clear hW hZ hz
  go_loopw [4, 5] (fun t _ wr => ∃ i : Nat, i ≤ 16 ∧ t = .int .i64 (i : Int) ∧ Hid (Cloned (w.heap.size + 2) 33 256 (i * 16) (fun q => C (q / 16) (q % 16)) W wr)) (fun t _ _ => 16 - (intOf t).toNat)
  case atStart => exact ⟨0, by omega, rfl, HCl⟩
  case round =>
    obtain ⟨i, hi, rfl, HC⟩ := hrel
    by_cases hlt : i < 16
    case neg =>
      have HE : Hid (i = 16) := by show i = 16; omega
      obtain ⟨g', hrow', hcp, hB'⟩ := HC.out
      have hrow1 := HR1.out.of_block (hB'.block (w.heap.size + 1) (by omega))
      rw [HE.out] at hcp
      obtain ⟨A, hA, hAs, hAc⟩ := hrow'
      have HA : Hid (∀ j v, A[j]? = some v → wr.cell? ⟨w.heap.size + 2, j, none⟩ = some v) := fun j v h => by rw [cell_of_row wr _ j A 33 (0, 0) hA]; exact h
      have HS : Hid ((Try.prog.info? 33).map (·.size) = some A.size) := by show _ = _; rw [hAs]; exact tsize33
      have HO : Hid (A.all (·.oneCell') = true) := Array.all_eq_true_iff_forall_mem.2 (fun v hv => by
        obtain ⟨j, hj, rfl⟩ := Array.mem_iff_getElem.1 hv
        obtain ⟨a, c, he, _⟩ := hcp j (by omega)
        have := hAc j (by omega)
        rw [Array.getElem?_eq_getElem hj] at this
        rw [Option.some.inj this, he]; rfl)
      have HTh : Hid (wr.there (w.heap.size + 1) 0 A.size) := fun j hj => by
        rw [Nat.zero_add]
        exact ⟨by rw [hrow1.cell (by omega)]; rfl, hrow1.frozen j⟩
      have HArr : Hid (Fresh w.heap.size (wr.setCells (w.heap.size + 1) 0 A.toList) A 256 (fun q => C (q / 16) (q % 16))) := ⟨hAs, fun j hj => by
        refine ⟨g' j, hAc j hj, RdS.weaken (T := fun b => w.heap.size ≤ b) ((hcp j (by omega)).kept (fun b hb _ => (heap_setCells _ b (by omega) _ _ _).1) ?_) (fun b _ hb => by omega)⟩
        rw [(heap_setCells (w.heap.size + 1) 0 (by omega) A.toList 0 wr).2]; exact Nat.le_refl _⟩
      have HBe : Hid (Below w.heap.size w (wr.setCells (w.heap.size + 1) 0 A.toList)) := below_setCells _ (by omega) _ _ _ (HBW.out.trans (hB'.mono (by omega)))
      clear hrow1 hcp hB' hA hAs hAc
      go_wp2_with (first
        | (refine wpList_load_box (by rfl) 33 _ (by rfl) _ (by rfl) A _ (fun i v h => HA.out i v h) Try.underlying33 rfl HS.out ?_)
        | (refine wpList_store_mid (by rfl) 33 _ _ (by rfl) _ 0 A (by rfl) (by rfl) HTh.out HS.out HO.out ?_))
      refine bodyPost_ret (results_box (by rfl) _ _ (w.heap.size + 1) A _ (by rfl) (World.rangeAt_setCells_same _ _ _ _ (by simpa using HTh.out)) Try.underlying33 rfl HS.out) rfl ?_
      exact ⟨A, rfl, HArr.out, HBe.out⟩
    case pos =>
      have hlt' : (i : Int) < 16 := by omega
      go_wp2_with fail
      go_loopw [5] (fun t wr => ∃ j : Nat, j ≤ 16 ∧ t = .int .i64 (j : Int) ∧ Hid (Cloned (w.heap.size + 2) 33 256 (i * 16 + j) (fun q => C (q / 16) (q % 16)) W wr)) (fun t _ => 16 - (intOf t).toNat)
      case atStart => exact ⟨0, by omega, rfl, HC⟩
      case round =>
        obtain ⟨j, hj, rfl, HC⟩ := hrel
        by_cases hjl : j < 16
        case neg =>
          have HE : Hid (j = 16) := by show j = 16; omega
          have HS : Hid (Cloned (w.heap.size + 2) 33 256 ((i + 1) * 16) (fun q => C (q / 16) (q % 16)) W wr) := by
            have := HC.out
            rw [HE.out, show i * 16 + 16 = (i + 1) * 16 from by omega] at this
            exact this
          go_wp2
          go_roundw
          case rel => exact ⟨i + 1, by omega, by go_num, HS⟩
          case measure => simp [intOf]; omega
        case pos =>
          obtain ⟨g, hrow, _, hB⟩ := HC.out
          obtain ⟨v, k1', r1'⟩ := C1.out i j hlt hjl
          have k1 : wr.cell? ⟨w.heap.size, i * 16 + j, none⟩ = some v := (hB.cell (by simp)).trans k1'
          have R1 : Hid (RdS (fun _ => True) .u64 wr v (C i j)) := rd_low (r1'.kept (fun b hb _ => hB.block b (by omega)) hB.size)
          have hsz : w.heap.size + 2 + 1 ≤ wr.heap.size := by have := hB.size; rw [HSZ.out] at this; omega
          have hjl' : (j : Int) < 16 := by omega
          clear k1' r1'
          have DD : ∀ W2, Below wr.heap.size wr W2 → Calls Try.prog 24 #[v] W2 (fun e w1 => ∃ x1 m c1, e = .returned (.slice x1 m c1) ∧ Hid (Cloned (w.heap.size + 2) 33 256 (i * 16 + j + 1) (fun q => C (q / 16) (q % 16)) W (w1.setCell ⟨w.heap.size + 2, i * 16 + j, none⟩ (.slice x1 m c1))) ∧ w1.cell? ⟨w.heap.size + 2, i * 16 + j, none⟩ = some (g (i * 16 + j)) ∧ w1.frozen? ⟨w.heap.size + 2, i * 16 + j, none⟩ = false) := fun W2 hW2 => by
            refine (copy_any v (C i j) W2 (RdS.below R1.out hW2) (HL.out.2 i j hlt hjl)).mono ?_
            rintro e w1 ⟨v1, rfl, hr, hb⟩
            have hb' : Below wr.heap.size wr w1 := hW2.trans (hb.mono hW2.size)
            have hrow1 := hrow.of_block (hb'.block (w.heap.size + 2) (by omega))
            obtain ⟨x1, c1, hv1, _⟩ := id hr
            subst hv1
            refine ⟨x1, _, c1, rfl, ?_, hrow1.cell (by omega), hrow1.frozen _⟩
            refine HC.out.step hsz ?_ hb'
            show RdS _ _ _ _ (C ((i * 16 + j) / 16) ((i * 16 + j) % 16))
            rw [show (i * 16 + j) / 16 = i from by omega, show (i * 16 + j) % 16 = j from by omega]
            exact hr.weaken (fun b _ hb => Nat.le_trans hW2.size hb)
          have HDD : Hid _ := DD
          clear DD hrow hB
          go_wp2_with fail
          go_region_with (go_at_call 24; refine (HDD.out _ (by exact ⟨rfl, rfl, rfl, Nat.le_refl _, fun _ _ => rfl⟩)).mono ?_; rintro e w1 ⟨x1, m, c1, rfl, HS, c2, f2⟩)
          all_goals
            go_wp2
            go_roundw
            case rel => exact ⟨j + 1, by omega, by go_num, HS⟩
            case measure => simp [intOf]; omega

end Go.Proofs.Qxb6604322a.Tree
