/-
  ZZPointTreeRank (20): the walk.
-/
import Derived.Test.Qxb6604322aTreeH
import Derived.Deep.RegionHeld3
import Derived.Laws.Tables
import Derived.Deep.RegionWith
namespace Go.Proofs.Qxb6604322a.Tree
open Go.ChangeShapes Go.WideShapes Go.ChangeAt Go.RowKit Mem
set_option linter.unusedVariables false
set_option linter.unusedSimpArgs false

/-- The n values of f, as a list. -/
def vl (f : Nat → Value) (n : Nat) : List Value := (List.range n).map f

theorem vl_len (f : Nat → Value) (n : Nat) : (vl f n).length = n := by simp [vl]
theorem vl_at (f : Nat → Value) (n i : Nat) (h : i < n) : (vl f n)[i]? = some (f i) := by simp [vl, h]
theorem vl_some (f : Nat → Value) (n i : Nat) (v : Value) (h : (vl f n)[i]? = some v) : i < n ∧ v = f i := by
  have hl : i < (vl f n).length := (List.getElem?_eq_some_iff.1 h).1
  rw [vl_len] at hl
  rw [vl_at f n i hl] at h
  exact ⟨hl, (Option.some.inj h).symm⟩

/-- A node's cells. -/
def nodeCell (s low : Value) (bl nl ll kl : Nat → Value) (q : Nat) : Value :=
  if q = 0 then s else if q = 1 then low else if q < 18 then bl (q - 2) else if q < 34 then nl (q - 18) else if q < 50 then ll (q - 34) else kl (q - 50)

theorem built_kid (s : Int) (bl ll : Nat → Value) :
    Try.prog.built 65 [(0, .int .i64 s), (1, .bool true), (2, .agg (vl bl 16).toArray), (4, .agg (vl ll 16).toArray)] = some (vl (nodeCell (.int .i64 s) (.bool true) bl (fun _ => .int .i32 0) ll (fun _ => .pointer none)) 66).toArray := by kernel_rfl
theorem built_root (s : Int) (low : Bool) (bl nl ll kl : Nat → Value) :
    Try.prog.built 65 [(0, .int .i64 s), (1, .bool low), (2, .agg (vl bl 16).toArray), (3, .agg (vl nl 16).toArray), (4, .agg (vl ll 16).toArray), (5, .agg (vl kl 16).toArray)] = some (vl (nodeCell (.int .i64 s) (.bool low) bl nl ll kl) 66).toArray := by kernel_rfl

theorem yieldsIf_build {P : Program} {ops : Array Oper} {S : World → Prop} {op : Oper} {a : Act} (hw : Region.wanted op (yielded ops a.tmps) = true) (t : TypeId) (parts : Array (Nat × Operand)) (ho : op.op = .build t parts)
    (cells : Array Value) (hb : ∀ w, (Instr.build t (parts.map fun (i, x) => (i, a.eval x))).run P w = .ok (.agg cells) w) : YieldsIf P ops S op (.agg cells) a :=
  .inl ⟨hw, fun w _ => by
    unfold execOp
    simp only [ho, Sem.run_bind, hb w, Result.andThen_ok]
    rfl⟩

theorem wpList_built {P : Program} {ops : Array Oper} {rest : List Oper} {op : Oper} {a : Act} {w : World} {Q : Exit → Act → World → Prop} (hgd : op.guard = none) (t : TypeId) (parts : Array (Nat × Operand)) (ho : op.op = .build t parts)
    (cells : Array Value) (hb : ∀ w, (Instr.build t (parts.map fun (i, x) => (i, a.eval x))).run P w = .ok (.agg cells) w) (h : wpList P ops Q rest (a.put op.dst (.agg cells)) w) : wpList P ops Q (op :: rest) a w :=
  wpList_plain hgd fun _ hK => by
    unfold Oper.wp execOp
    simp only [ho, Sem.run_bind, hb w, Result.andThen_ok]
    exact hK _ _ h

theorem node_of_block {w : World} {b : Nat} {s low : Value} {bl nl ll kl : Nat → Value} (h : w.heap[b]? = some (.cells (vl (nodeCell s low bl nl ll kl) 66).toArray 65 (0, 0))) :
    w.cell? ⟨b, 0, none⟩ = some s ∧ w.cell? ⟨b, 1, none⟩ = some low ∧ (∀ i, i < 16 → w.cell? ⟨b, 2 + i, none⟩ = some (bl i)) ∧ (∀ i, i < 16 → w.cell? ⟨b, 18 + i, none⟩ = some (nl i)) ∧ (∀ i, i < 16 → w.cell? ⟨b, 34 + i, none⟩ = some (ll i)) ∧ (∀ i, i < 16 → w.cell? ⟨b, 50 + i, none⟩ = some (kl i)) := by
  have hc : ∀ q, q < 66 → w.cell? ⟨b, q, none⟩ = some (nodeCell s low bl nl ll kl q) := fun q hq => by
    rw [cell_of_row w b q _ 65 (0, 0) h]
    simpa using vl_at (nodeCell s low bl nl ll kl) 66 q hq
  refine ⟨hc 0 (by omega), hc 1 (by omega), fun i hi => ?_, fun i hi => ?_, fun i hi => ?_, fun i hi => ?_⟩
  · rw [hc (2 + i) (by omega)]
    unfold nodeCell
    rw [if_neg (by omega), if_neg (by omega), if_pos (by omega), show 2 + i - 2 = i from by omega]
  · rw [hc (18 + i) (by omega)]
    unfold nodeCell
    rw [if_neg (by omega), if_neg (by omega), if_neg (by omega), if_pos (by omega), show 18 + i - 18 = i from by omega]
  · rw [hc (34 + i) (by omega)]
    unfold nodeCell
    rw [if_neg (by omega), if_neg (by omega), if_neg (by omega), if_neg (by omega), if_pos (by omega), show 34 + i - 34 = i from by omega]
  · rw [hc (50 + i) (by omega)]
    unfold nodeCell
    rw [if_neg (by omega), if_neg (by omega), if_neg (by omega), if_neg (by omega), if_neg (by omega), show 50 + i - 50 = i from by omega]

/-- The cells of child q. -/
def kidCells (cs : Nat → Int) (cl : Nat → Nat → Int) (CV : Array Value) (q : Nat) : List Value :=
  vl (nodeCell (.int .i64 (cs q)) (.bool true) (fun j => .int .u64 (cl q j)) (fun _ => .int .i32 0) (fun j => CV[q * 16 + j]?.getD undef) (fun _ => .pointer none)) 66

/-- What holds at the head of the loop that makes the children. -/
def Made (B : Nat) (cs : Nat → Int) (cl : Nat → Nat → Int) (CV : Array Value) (i : Nat) (W wr : World) : Prop :=
  wr.heap.size = B + 7 + i ∧ Below (B + 6) W wr ∧ wr.rowIs (B + 6) 63 16 (fun q => if q < i then .pointer (some ⟨B + 7 + q, 0, none⟩) else .pointer none) ∧
    ∀ q, q < i → wr.heap[B + 7 + q]? = some (.cells (kidCells cs cl CV q).toArray 65 (0, 0))

theorem Made.step {B : Nat} {cs : Nat → Int} {cl : Nat → Nat → Int} {CV : Array Value} {i : Nat} {W wr : World} (h : Made B cs cl CV i W wr) (hi : i < 16) :
    Made B cs cl CV (i + 1) W (((wr.alloc (.cells (kidCells cs cl CV i).toArray 65)).drew).setCell ⟨B + 6, i, none⟩ (.pointer (some ⟨wr.heap.size, 0, none⟩))) := by
  obtain ⟨h1, h2, h3, h4⟩ := h
  refine ⟨by simp [World.setCell, h1]; omega, (((h2.alloc (by omega) _).drew).setCell (by simp) _), ?_, fun q hq => ?_⟩
  · refine (((h3.alloc _).drew).set i _).congr (fun q hq => ?_)
    by_cases e : q = i
    · subst e
      rw [if_pos rfl, if_pos (by omega), h1]
    · rw [if_neg e]
      by_cases e2 : q < i
      · rw [if_pos e2, if_pos (by omega)]
      · rw [if_neg e2, if_neg (by omega)]
  · rw [Below.heap_setCell _ _ _ _ (by simp; omega)]
    show (wr.alloc _).heap[B + 7 + q]? = _
    by_cases e : q = i
    · subst e
      rw [← h1]
      exact heap_alloc_new wr _
    · rw [Below.heap_alloc _ _ _ (by omega)]
      exact h4 q (by omega)

theorem tsize27 : (Try.prog.info? 27).map (·.size) = some 16 := by kernel_rfl
theorem tsize28 : (Try.prog.info? 28).map (·.size) = some 16 := by kernel_rfl
theorem tsize63 : (Try.prog.info? 63).map (·.size) = some 16 := by kernel_rfl

set_option maxRecDepth 100000 in
set_option maxHeartbeats 2000000 in
theorem tree_any (count : Int) (n : Nat) (low : Bool) (AV NV LV SV BV CV : Array Value) (la co : Nat → Int) (L : Nat → List Int) (cs : Nat → Int) (cl : Nat → Nat → Int) (C : Nat → Nat → List Int) (x : Int) (w : World) (A : Nat)
    (h1 : Ints .u64 AV 16 la) (h2 : Ints .i32 NV 16 co) (h3 : Arr w LV 16 L) (h4 : Ints .i64 SV 16 cs) (h5 : Ints .u64 BV 256 (fun q => cl (q / 16) (q % 16))) (h6 : Arr w CV 256 (fun q => C (q / 16) (q % 16))) 
    (hA : (low = true ∧ LowOk n la L ∧ A = lowRank x n la L) ∨ (low = false ∧ n ≤ 16 ∧ Up (firsts la n) ∧ ∃ cn J : Nat → Nat, sumTo cn n ≤ 131072 ∧ (∀ i, i < n → co i = (cn i : Int) ∧ cs i = (J i : Int) ∧ LowOk (J i) (cl i) (C i)) ∧ A = highRank x n la cn J cl C)) :
    Calls Try.prog 20 #[.int .i64 count, .int .i64 (n : Int), .bool low, .agg AV, .agg NV, .agg LV, .agg SV, .agg BV, .agg CV, .int .u64 x] w (RankPost A w) := by
  have HARG : Hid _ := And.intro h3 (And.intro h6 hA)
  go_enter Try.func20, Try.ntmps20
  go_wp2_with fail
  obtain ⟨Z, hZ⟩ : ∃ Z : Array Value, Z = #[.pointer none, .pointer none, .pointer none, .pointer none, .pointer none, .pointer none, .pointer none, .pointer none, .pointer none, .pointer none, .pointer none, .pointer none, .pointer none, .pointer none, .pointer none, .pointer none] := ⟨_, rfl⟩
  obtain ⟨W, hW⟩ : ∃ W, W = boxAll w [(AV, 27), (NV, 28), (LV, 30), (SV, 31), (BV, 32), (CV, 33), (Z, 63)] := ⟨_, rfl⟩
  have HBW : Hid (Below w.heap.size w W) := by show Below _ _ _; rw [hW]; exact boxAll_below _ w
  have HSZ : Hid (W.heap.size = w.heap.size + 7) := by show _ = _; rw [hW]; exact boxAll_size _ w
  have C1 : Hid (∀ i, i < 16 → W.cell? ⟨w.heap.size, i, none⟩ = some (.int .u64 (la i))) := fun i hi => by
    rw [hW]; exact boxAll_cell _ w 0 i AV 27 _ rfl (h1.2 i hi)
  have C2 : Hid (∀ i, i < 16 → W.cell? ⟨w.heap.size + 1, i, none⟩ = some (.int .i32 (co i))) := fun i hi => by
    rw [hW]; exact boxAll_cell _ w 1 i NV 28 _ rfl (h2.2 i hi)
  have C3 : Hid (∀ i, i < 16 → W.cell? ⟨w.heap.size + 2, i, none⟩ = some (LV[i]?.getD undef)) := fun i hi => by
    obtain ⟨v, hv, hr⟩ := h3.2 i hi
    rw [hW, hv]; exact boxAll_cell _ w 2 i LV 30 v rfl hv
  have C4 : Hid (∀ i, i < 16 → W.cell? ⟨w.heap.size + 3, i, none⟩ = some (.int .i64 (cs i))) := fun i hi => by
    rw [hW]; exact boxAll_cell _ w 3 i SV 31 _ rfl (h4.2 i hi)
  have C5 : Hid (∀ i j, i < 16 → j < 16 → W.cell? ⟨w.heap.size + 4, i * 16 + j, none⟩ = some (.int .u64 (cl i j))) := fun i j hi hj => by
    have hv := h5.2 (i * 16 + j) (by omega)
    simp only at hv
    rw [show (i * 16 + j) / 16 = i from by omega, show (i * 16 + j) % 16 = j from by omega] at hv
    rw [hW]; exact boxAll_cell _ w 4 _ BV 32 _ rfl hv
  have C6 : Hid (∀ i j, i < 16 → j < 16 → W.cell? ⟨w.heap.size + 5, i * 16 + j, none⟩ = some (CV[i * 16 + j]?.getD undef)) := fun i j hi hj => by
    obtain ⟨v, hv, hr⟩ := h6.2 (i * 16 + j) (by omega)
    rw [hW, hv]; exact boxAll_cell _ w 5 _ CV 33 v rfl hv
  have HM0 : Hid (Made w.heap.size cs cl CV 0 W W) := by
    refine ⟨by rw [HSZ.out], Below.refl _ _, ?_, fun q hq => by omega⟩
    rw [hW]
    have h := World.rowIs_alloc (boxAll w [(AV, 27), (NV, 28), (LV, 30), (SV, 31), (BV, 32), (CV, 33)]) Z 63 (fun q => if q < 0 then .pointer (some ⟨w.heap.size + 7 + q, 0, none⟩) else .pointer none) (fun i hi => by
      have h16 : i < 16 := by rw [hZ] at hi; simpa using hi
      rw [hZ]
      have : i = 0 ∨ i = 1 ∨ i = 2 ∨ i = 3 ∨ i = 4 ∨ i = 5 ∨ i = 6 ∨ i = 7 ∨ i = 8 ∨ i = 9 ∨ i = 10 ∨ i = 11 ∨ i = 12 ∨ i = 13 ∨ i = 14 ∨ i = 15 := by omega
      rcases this with rfl | rfl | rfl | rfl | rfl | rfl | rfl | rfl | rfl | rfl | rfl | rfl | rfl | rfl | rfl | rfl <;> rfl)
    rw [show Z.size = 16 from by rw [hZ]; rfl, show (boxAll w [(AV, 27), (NV, 28), (LV, 30), (SV, 31), (BV, 32), (CV, 33)]).heap.size = w.heap.size + 6 from boxAll_size _ w] at h
    exact h
  rw [← hZ]
  simp only [boxAll] at hW
  rw [← hW]
  clear hW hZ h1 h2 h3 h4 h5 h6 hA
  go_loopw [22] (fun t wr => ∃ i : Nat, i ≤ 16 ∧ t = .int .i64 (i : Int) ∧ Hid (Made w.heap.size cs cl CV i W wr)) (fun t _ => 16 - (intOf t).toNat)
  case atStart => exact ⟨0, by omega, rfl, HM0⟩
  case round =>
    obtain ⟨i, hi, rfl, HM⟩ := hrel
    by_cases hlt : i < 16
    case pos =>
      have hlt' : (i : Int) < 16 := by omega
      obtain ⟨hsz, hB, hrow, hkids⟩ := HM.out
      obtain ⟨bl, hbl⟩ : ∃ bl, bl = vl (fun j => .int .u64 (cl i j)) 16 := ⟨_, rfl⟩
      obtain ⟨ll, hll⟩ : ∃ ll, ll = vl (fun j => CV[i * 16 + j]?.getD undef) 16 := ⟨_, rfl⟩
      obtain ⟨KC, hKC⟩ : ∃ KC, KC = (kidCells cs cl CV i).toArray := ⟨_, rfl⟩
      have hbuild : ∀ w, (Instr.build 65 #[(0, .int .i64 (cs i)), (1, .bool true), (2, .agg bl.toArray), (4, .agg ll.toArray)]).run Try.prog w = .ok (.agg KC) w := fun w => by
        rw [hbl, hll, hKC]
        exact run_build w 65 _ _ (built_kid _ _ _)
      have HK : Hid (∀ w', Below (w.heap.size + 6) wr w' → w'.cell? ⟨w.heap.size + 3, i, none⟩ = some (.int .i64 (cs i)) ∧ w'.rangeAt (w.heap.size + 4) (i * 16) bl ∧ w'.rangeAt (w.heap.size + 5) (i * 16) ll) := fun w' hw' => by
        have hB' := hB.trans hw'
        refine ⟨(hB'.cell (by simp)).trans (C4.out i hlt), fun j v hv => ?_, fun j v hv => ?_⟩
        · rw [hbl] at hv
          obtain ⟨hj, rfl⟩ := vl_some _ _ _ _ hv
          exact (hB'.cell (by simp)).trans (C5.out i j hlt hj)
        · rw [hll] at hv
          obtain ⟨hj, rfl⟩ := vl_some _ _ _ _ hv
          exact (hB'.cell (by simp)).trans (C6.out i j hlt hj)
      have HSz : Hid (wr.heap.size = w.heap.size + 7 + i) := hsz
      have HI27 : Hid ((Try.prog.info? 27).map (·.size) = some bl.length) := by show _ = _; rw [hbl, vl_len]; exact tsize27
      have HI30 : Hid ((Try.prog.info? 30).map (·.size) = some ll.length) := by show _ = _; rw [hll, vl_len]; exact tsize30
      have c2 : (wr.alloc (.cells KC 65)).cell? ⟨w.heap.size + 1 + 1 + 1 + 1 + 1 + 1, i, none⟩ = some _ := (hrow.alloc _).cell hlt
      have f2 : (wr.alloc (.cells KC 65)).frozen? ⟨w.heap.size + 1 + 1 + 1 + 1 + 1 + 1, i, none⟩ = false := (hrow.alloc _).frozen i
      have HKC : Hid _ := hKC
      clear hB hrow hkids hbl hll hKC hsz
      go_wp2_with fail
      refine wp_region_held_drew (S := fun w' => w'.cell? ⟨w.heap.size + 1 + 1 + 1, i, none⟩ = some (.int .i64 (cs i)) ∧ w'.rangeAt (w.heap.size + 1 + 1 + 1 + 1) (i * 16) bl ∧ w'.rangeAt (w.heap.size + 1 + 1 + 1 + 1 + 1) (i * 16) ll) (by kernel_rfl) (HK.out _ (Below.refl _ _).drew) (fun hHeld => ?_)
      refine wpAnyH_take (i := 0) (oi := { dst := some 29, op := Op.move (Operand.tmp 22), type := 3, pos := _, after := #[], guard := none }) (v := .int .i64 (i : Int)) rfl (by kernel_rfl) (by kernel_rfl) (by kernel_rfl) (fun _ _ _ h => h) (Or.inl ⟨by rfl, ?_⟩) hHeld ?_
      · intro w2 hSw
        obtain ⟨q1, q2, q3⟩ := hSw
        clear q2 q3
        go_simp
      simp only [Act.put, List.setIfInBounds_toArray, List.set_cons_zero, List.set_cons_succ]
      refine wpAnyH_take (i := 1) (oi := { dst := some 30, op := Op.move (Operand.tmp 22), type := 3, pos := _, after := #[], guard := none }) (v := .int .i64 (i : Int)) rfl (by kernel_rfl) (by kernel_rfl) (by kernel_rfl) (fun _ _ _ h => h) (Or.inl ⟨by rfl, ?_⟩) hHeld ?_
      · intro w2 hSw
        obtain ⟨q1, q2, q3⟩ := hSw
        clear q2 q3
        go_simp
      simp only [Act.put, List.setIfInBounds_toArray, List.set_cons_zero, List.set_cons_succ]
      refine wpAnyH_take (i := 2) (oi := { dst := some 31, op := Op.indexAddr 31 (Operand.tmp 16) (Operand.tmp 30), type := 0, pos := _, after := #[{ on := 1, ground := Ground.data }], guard := none }) (v := .pointer (some ⟨w.heap.size + 1 + 1 + 1, i, none⟩)) rfl (by kernel_rfl) (by kernel_rfl) (by kernel_rfl) (fun _ _ _ h => h) (Or.inl ⟨by rfl, ?_⟩) hHeld ?_
      · intro w2 hSw
        obtain ⟨q1, q2, q3⟩ := hSw
        clear q2 q3
        go_simp
      simp only [Act.put, List.setIfInBounds_toArray, List.set_cons_zero, List.set_cons_succ]
      refine wpAnyH_take (i := 3) (oi := { dst := some 32, op := Op.load 3 (Operand.tmp 31), type := 3, pos := _, after := #[{ on := 2, ground := Ground.data }], guard := none }) (v := .int .i64 (cs i)) rfl (by kernel_rfl) (by kernel_rfl) (by kernel_rfl) (fun _ _ _ h => h) (Or.inl ⟨by rfl, ?_⟩) hHeld ?_
      · intro w2 hSw
        obtain ⟨q1, q2, q3⟩ := hSw
        clear q2 q3
        go_simp
      simp only [Act.put, List.setIfInBounds_toArray, List.set_cons_zero, List.set_cons_succ]
      refine wpAnyH_take (i := 4) (oi := { dst := some 33, op := Op.move (Operand.tmp 22), type := 3, pos := _, after := #[], guard := none }) (v := .int .i64 (i : Int)) rfl (by kernel_rfl) (by kernel_rfl) (by kernel_rfl) (fun _ _ _ h => h) (Or.inl ⟨by rfl, ?_⟩) hHeld ?_
      · intro w2 hSw
        obtain ⟨q1, q2, q3⟩ := hSw
        clear q2 q3
        go_simp
      simp only [Act.put, List.setIfInBounds_toArray, List.set_cons_zero, List.set_cons_succ]
      refine wpAnyH_take (i := 5) (oi := { dst := some 34, op := Op.indexAddr 32 (Operand.tmp 17) (Operand.tmp 33), type := 0, pos := _, after := #[{ on := 4, ground := Ground.data }], guard := none }) (v := .pointer (some ⟨w.heap.size + 1 + 1 + 1 + 1, i * 16, none⟩)) rfl (by kernel_rfl) (by kernel_rfl) (by kernel_rfl) (fun _ _ _ h => h) (Or.inl ⟨by rfl, ?_⟩) hHeld ?_
      · intro w2 hSw
        obtain ⟨q1, q2, q3⟩ := hSw
        clear q2 q3
        go_simp
      simp only [Act.put, List.setIfInBounds_toArray, List.set_cons_zero, List.set_cons_succ]
      refine wpAnyH_take (i := 6) (oi := { dst := some 35, op := Op.load 27 (Operand.tmp 34), type := 27, pos := _, after := #[{ on := 5, ground := Ground.data }], guard := none }) (v := .agg bl.toArray) rfl (by kernel_rfl) (by kernel_rfl) (by kernel_rfl) (fun _ _ _ h => h) (yieldsIf_load_mid (by rfl) 27 _ rfl (w.heap.size + 1 + 1 + 1 + 1) (i * 16) rfl bl _ (fun w2 hSw => hSw.2.1) Try.underlying27 rfl HI27.out) hHeld ?_
      simp only [Act.put, List.setIfInBounds_toArray, List.set_cons_zero, List.set_cons_succ]
      refine wpAnyH_take (i := 7) (oi := { dst := some 36, op := Op.move (Operand.tmp 22), type := 3, pos := _, after := #[], guard := none }) (v := .int .i64 (i : Int)) rfl (by kernel_rfl) (by kernel_rfl) (by kernel_rfl) (fun _ _ _ h => h) (Or.inl ⟨by rfl, ?_⟩) hHeld ?_
      · intro w2 hSw
        obtain ⟨q1, q2, q3⟩ := hSw
        clear q2 q3
        go_simp
      simp only [Act.put, List.setIfInBounds_toArray, List.set_cons_zero, List.set_cons_succ]
      refine wpAnyH_take (i := 8) (oi := { dst := some 37, op := Op.indexAddr 33 (Operand.tmp 18) (Operand.tmp 36), type := 0, pos := _, after := #[{ on := 7, ground := Ground.data }], guard := none }) (v := .pointer (some ⟨w.heap.size + 1 + 1 + 1 + 1 + 1, i * 16, none⟩)) rfl (by kernel_rfl) (by kernel_rfl) (by kernel_rfl) (fun _ _ _ h => h) (Or.inl ⟨by rfl, ?_⟩) hHeld ?_
      · intro w2 hSw
        obtain ⟨q1, q2, q3⟩ := hSw
        clear q2 q3
        go_simp
      simp only [Act.put, List.setIfInBounds_toArray, List.set_cons_zero, List.set_cons_succ]
      refine wpAnyH_take (i := 9) (oi := { dst := some 38, op := Op.load 30 (Operand.tmp 37), type := 30, pos := _, after := #[{ on := 8, ground := Ground.data }], guard := none }) (v := .agg ll.toArray) rfl (by kernel_rfl) (by kernel_rfl) (by kernel_rfl) (fun _ _ _ h => h) (yieldsIf_load_mid (by rfl) 30 _ rfl (w.heap.size + 1 + 1 + 1 + 1 + 1) (i * 16) rfl ll _ (fun w2 hSw => hSw.2.2) Try.underlying30 rfl HI30.out) hHeld ?_
      simp only [Act.put, List.setIfInBounds_toArray, List.set_cons_zero, List.set_cons_succ]
      refine wpAnyH_take (i := 10) (oi := { dst := some 39, op := Op.build 65 #[(0, Operand.tmp 32), (1, Operand.const (Value.bool true)), (2, Operand.tmp 35), (4, Operand.tmp 38)], type := 65, pos := _, after := #[{ on := 3, ground := Ground.data }, { on := 6, ground := Ground.data }, { on := 9, ground := Ground.data }], guard := none }) (v := .agg KC) rfl (by kernel_rfl) (by kernel_rfl) (by kernel_rfl) (fun _ _ _ h => h) (yieldsIf_build (by rfl) 65 _ rfl KC (fun w2 => by simpa [Act.eval] using hbuild w2)) hHeld ?_
      simp only [Act.put, List.setIfInBounds_toArray, List.set_cons_zero, List.set_cons_succ]
      refine wpAnyH_ready (rs := [11]) (by kernel_rfl) (by simp) ?_
      refine AllReadyH.cons (o := { dst := some 40, op := Op.box 65 (Operand.tmp 39), type := 62, pos := _, after := #[{ on := 10, ground := Ground.data }], guard := none }) rfl (fun K hK => ?_) AllReadyH.nil
      go_simp
      refine hK.out _ _ (HK.out _ (Below.drew ((Below.refl _ _).alloc (by have := HSz.out; omega) _))) (fun hHeld2 => ?_)
      clear hK K
      refine wpAnyH_take (i := 12) (oi := { dst := some 41, op := Op.indexAddr 63 (Operand.tmp 21) (Operand.tmp 29), type := 0, pos := _, after := #[{ on := 0, ground := Ground.data }, { on := 0, ground := Ground.phase }, { on := 1, ground := Ground.phase }, { on := 2, ground := Ground.phase }, { on := 3, ground := Ground.phase }, { on := 4, ground := Ground.phase }, { on := 5, ground := Ground.phase }, { on := 6, ground := Ground.phase }, { on := 7, ground := Ground.phase }, { on := 8, ground := Ground.phase }, { on := 9, ground := Ground.phase }, { on := 10, ground := Ground.phase }, { on := 11, ground := Ground.phase }], guard := none }) (v := .pointer (some ⟨w.heap.size + 1 + 1 + 1 + 1 + 1 + 1, i, none⟩)) rfl (by kernel_rfl) (by kernel_rfl) (by kernel_rfl) (fun _ _ _ h => h) (Or.inl ⟨by rfl, ?_⟩) hHeld2 ?_
      · intro w2 hSw
        obtain ⟨q1, q2, q3⟩ := hSw
        clear q2 q3
        go_simp
      simp only [Act.put, List.setIfInBounds_toArray, List.set_cons_zero, List.set_cons_succ]
      refine wpAnyH_ready (rs := [13]) (by kernel_rfl) (by simp) ?_
      refine AllReadyH.cons (o := { dst := none, op := Op.store 62 (Operand.tmp 41) (Operand.tmp 40), type := 0, pos := _, after := #[{ on := 12, ground := Ground.data }, { on := 11, ground := Ground.data }, { on := 0, ground := Ground.phase }, { on := 1, ground := Ground.phase }, { on := 2, ground := Ground.phase }, { on := 3, ground := Ground.phase }, { on := 4, ground := Ground.phase }, { on := 5, ground := Ground.phase }, { on := 6, ground := Ground.phase }, { on := 7, ground := Ground.phase }, { on := 8, ground := Ground.phase }, { on := 9, ground := Ground.phase }, { on := 10, ground := Ground.phase }, { on := 11, ground := Ground.phase }], guard := none }) rfl (fun K hK => ?_) AllReadyH.nil
      go_simp
      refine hK.out _ _ (HK.out _ ?_) (fun hHeld3 => ?_)
      · refine Below.drew (Below.setCell (Below.alloc (Below.refl _ _) ?_ _) ?_ _)
        · have := HSz.out; omega
        · exact Nat.le_refl _
      clear hK K
      refine wpAnyH_done (by kernel_rfl) ?_ _
      have HM1 : Hid (Made w.heap.size cs cl CV (i + 1) W (((wr.alloc (.cells KC 65)).setCell ⟨w.heap.size + 6, i, none⟩ (.pointer (some ⟨wr.heap.size, 0, none⟩)))).drew) := by
        rw [HKC.out]; exact HM.out.step hlt
      clear hHeld hHeld2 hHeld3
      go_wp2
      go_roundw
      case rel => exact ⟨i + 1, by omega, by go_num, HM1⟩
      case measure => simp [intOf]; omega
    case neg =>
      have HE : Hid (i = 16) := by show i = 16; omega
      obtain ⟨hsz, hB, hrow, hkids⟩ := HM.out
      rw [HE.out] at hsz hrow hkids
      obtain ⟨al, hal⟩ : ∃ al, al = (vl (fun j => .int .u64 (la j)) 16).toArray := ⟨_, rfl⟩
      obtain ⟨nl, hnl⟩ : ∃ nl, nl = (vl (fun j => .int .i32 (co j)) 16).toArray := ⟨_, rfl⟩
      obtain ⟨ll, hll⟩ : ∃ ll, ll = (vl (fun j => LV[j]?.getD undef) 16).toArray := ⟨_, rfl⟩
      obtain ⟨kl, hkl⟩ : ∃ kl, kl = (vl (fun j => .pointer (some ⟨w.heap.size + 7 + j, 0, none⟩)) 16).toArray := ⟨_, rfl⟩
      obtain ⟨RC, hRC⟩ : ∃ RC, RC = (vl (nodeCell (.int .i64 (n : Int)) (.bool low) (fun j => .int .u64 (la j)) (fun j => .int .i32 (co j)) (fun j => LV[j]?.getD undef) (fun j => .pointer (some ⟨w.heap.size + 7 + j, 0, none⟩))) 66).toArray := ⟨_, rfl⟩
      have HBD : Hid (∀ w, (Instr.build 65 #[(0, .int .i64 (n : Int)), (1, .bool low), (2, .agg al), (3, .agg nl), (4, .agg ll), (5, .agg kl)]).run Try.prog w = .ok (.agg RC) w) := fun w => by
        rw [hal, hnl, hll, hkl, hRC]
        exact run_build w 65 _ _ (built_root _ _ _ _ _ _)
      have HC : Hid ((∀ j v, al[j]? = some v → wr.cell? ⟨w.heap.size, j, none⟩ = some v) ∧ (∀ j v, nl[j]? = some v → wr.cell? ⟨w.heap.size + 1, j, none⟩ = some v) ∧ (∀ j v, ll[j]? = some v → wr.cell? ⟨w.heap.size + 2, j, none⟩ = some v) ∧ (∀ j v, kl[j]? = some v → wr.cell? ⟨w.heap.size + 6, j, none⟩ = some v)) := by
        refine ⟨fun j v hv => ?_, fun j v hv => ?_, fun j v hv => ?_, fun j v hv => ?_⟩
        · rw [hal] at hv
          obtain ⟨hj, rfl⟩ := vl_some _ _ _ _ (by simpa using hv)
          exact (hB.cell (by simp)).trans (C1.out j hj)
        · rw [hnl] at hv
          obtain ⟨hj, rfl⟩ := vl_some _ _ _ _ (by simpa using hv)
          exact (hB.cell (by simp)).trans (C2.out j hj)
        · rw [hll] at hv
          obtain ⟨hj, rfl⟩ := vl_some _ _ _ _ (by simpa using hv)
          exact (hB.cell (by simp)).trans (C3.out j hj)
        · rw [hkl] at hv
          obtain ⟨hj, rfl⟩ := vl_some _ _ _ _ (by simpa using hv)
          have := hrow.cell hj
          rw [if_pos hj] at this
          exact this
      have HSS : Hid ((Try.prog.info? 27).map (·.size) = some al.size ∧ (Try.prog.info? 28).map (·.size) = some nl.size ∧ (Try.prog.info? 30).map (·.size) = some ll.size ∧ (Try.prog.info? 63).map (·.size) = some kl.size) := by
        rw [hal, hnl, hll, hkl]
        simp only [List.size_toArray, vl_len]
        exact ⟨tsize27, tsize28, tsize30, tsize63⟩
      have HRC : Hid _ := hRC
      have HKD : Hid _ := And.intro hsz (And.intro hB hkids)
      clear hsz hB hrow hkids hal hnl hll hkl hRC
      go_wp2_with (first
        | (refine wpList_load_box (by rfl) 27 _ (by rfl) _ (by rfl) al _ HC.out.1 Try.underlying27 rfl HSS.out.1 ?_)
        | (refine wpList_load_box (by rfl) 28 _ (by rfl) _ (by rfl) nl _ HC.out.2.1 Try.underlying28 rfl HSS.out.2.1 ?_)
        | (refine wpList_load_box (by rfl) 30 _ (by rfl) _ (by rfl) ll _ HC.out.2.2.1 Try.underlying30 rfl HSS.out.2.2.1 ?_)
        | (refine wpList_load_box (by rfl) 63 _ (by rfl) _ (by rfl) kl _ HC.out.2.2.2 Try.underlying63 rfl HSS.out.2.2.2 ?_)
        | (refine wpList_built (by rfl) 65 _ (by rfl) RC ?_ ?_; (intro w2; simp only [List.map_toArray, List.map_cons, List.map_nil]; exact HBD.out w2)))
      obtain ⟨w2, hw2⟩ : ∃ w2, w2 = (wr.alloc (.cells RC 65)).alloc (.cells #[.pointer (some ⟨wr.heap.size, 0, none⟩), .int .i64 count] 67) := ⟨_, rfl⟩
      rw [← hw2]
      have B2 : Hid (Below wr.heap.size wr w2) := by show Below _ _ _; rw [hw2]; exact ((Below.refl _ _).alloc (Nat.le_refl _) _).alloc (by simp) _
      have R2 : Hid (w2.heap[wr.heap.size]? = some (.cells RC 65 (0, 0))) := by show _ = _; rw [hw2, Below.heap_alloc _ _ _ (by simp)]; exact heap_alloc_new wr _
      clear hw2
      have B3 : Hid (Below w.heap.size w w2) := (HBW.out.trans (HKD.out.2.1.mono (by omega))).trans (B2.out.mono (by rw [HKD.out.1]; omega))
      have HN := node_of_block (by have := R2.out; rw [HRC.out] at this; exact this)
      have T : (∃ n la f, LNode w2 wr.heap.size n la f ∧ LowOk n la f ∧ A = lowRank x n la f) ∨ (∃ n la cn kb J cl C, HNode w2 wr.heap.size n la cn kb J cl C ∧ A = highRank x n la cn J cl C) := by
        obtain ⟨g3, g6, gA⟩ := HARG.out
        rcases gA with ⟨rfl, a1, a2⟩ | ⟨rfl, a1, a2, cn, J, a3, a4, a5⟩
        · refine .inl ⟨n, la, L, ⟨⟨HN.1, HN.2.1, HN.2.2.1⟩, fun q hq => ?_⟩, a1, a2⟩
          obtain ⟨v, hv, hr⟩ := g3.2 q hq
          refine ⟨v, ?_, RdS.below hr B3.out⟩
          rw [HN.2.2.2.2.1 q hq, hv]; rfl
        · refine .inr ⟨n, la, cn, fun q => w.heap.size + 7 + q, J, cl, C, ⟨⟨HN.1, HN.2.1, HN.2.2.1⟩, a1, a2, a3, fun q hq => ?_⟩, a5⟩
          obtain ⟨b1, b2, b3⟩ := a4 q hq
          have hk := HKD.out.2.2 q (by omega)
          rw [← B2.out.block _ (by rw [HKD.out.1]; omega)] at hk
          have HK := node_of_block hk
          refine ⟨by rw [HN.2.2.2.1 q (by omega), b1], HN.2.2.2.2.2 q (by omega), (by have := HKD.out.1; show w.heap.size + 7 + q ≠ _; omega), ⟨⟨by rw [HK.1, b2], HK.2.1, HK.2.2.1⟩, fun j hj => ?_⟩, b3⟩
          obtain ⟨v, hv, hr⟩ := g6.2 (q * 16 + j) (by omega)
          simp only at hr
          rw [show (q * 16 + j) / 16 = q from by omega, show (q * 16 + j) % 16 = j from by omega] at hr
          refine ⟨v, ?_, RdS.below hr B3.out⟩
          rw [HK.2.2.2.2.1 j hj, hv]; rfl
      have T2 := rank_any wr.heap.size A (.int .i64 count) x w2 T
      clear T HN
      refine T2.mono ?_
      clear T2
      rintro e w3 ⟨rfl, hb3⟩
      have B4 : Hid (Below w.heap.size w w3) := B3.out.trans (hb3.mono B3.out.size)
      clear hb3
      go_wp2
      go_ret
      exact ⟨rfl, B4.out⟩

end Go.Proofs.Qxb6604322a.Tree
