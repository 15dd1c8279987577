/-
  zzClone (8), (*bitset).remove (18), its shim (15), zzBytes (14): the walks.
-/
import Derived.Test.Qxb6603844aBitA
import Derived.Laws.Pointers
import Derived.Deep.DeepCutAuto
namespace Go.Proofs.Qxb6603844a.Bit
open Go.ChangeShapes Go.WideShapes Go.ChangeAt Go.RowKit
set_option linter.unusedVariables false
set_option linter.unusedSimpArgs false

/-- The same world, but for what has been drawn. -/
def Same (w' w : World) : Prop := w'.heap = w.heap ∧ w'.os = w.os ∧ w'.tape = w.tape ∧ w'.output = w.output

/-- The model's 'x &^ (1 << c)'. -/
theorem clr_model (x : Int) (c : Nat) (hx : Wd x) (hc : c < 64) : bits BinOp.andNot IntKind.u64 x (IntKind.u64.wrap (2 ^ c)) = clr x c := by
  have h2 : 2 ^ c < 2 ^ 64 := Nat.pow_lt_pow_right (by decide) hc
  have e : ((2 : Int) ^ c) = ((2 ^ c : Nat) : Int) := by simp
  have hp : 0 < 2 ^ c := Nat.pos_of_ne_zero (by simp)
  have h0 := hx.1
  have h1 := hx.2
  obtain ⟨p, hpp⟩ : ∃ p, p = 2 ^ c := ⟨_, rfl⟩
  rw [e, ← hpp]
  rw [← hpp] at h2 hp
  rw [IntWalk.u64_in _ ⟨by omega, by omega⟩, u64_andNot x (p : Int) h0 (by omega) (by omega) (by omega)]
  unfold clr
  rw [Int.toNat_natCast, hpp]

set_option maxRecDepth 100000 in
set_option maxHeartbeats 2000000 in
theorem remove_any (D g1 g2 n1 n2 c1 c2 i : Nat) (x z : Int) (w : World) (hi : i ≤ 9223372036854775807) (hk : i / 64 < n1) (hm : i / 64 / 64 < n2) (hn1 : n1 ≤ 1000000) (hn2 : n2 ≤ 1000000)
    (d0 : w.cell? ⟨D, 0, none⟩ = some (.slice (some ⟨g1, 0, none⟩) n1 c1)) (d1 : w.cell? ⟨D, 1, none⟩ = some (.slice (some ⟨g2, 0, none⟩) n2 c2))
    (hx : w.cell? ⟨g1, i / 64, none⟩ = some (.int .u64 x)) (fx : w.frozen? ⟨g1, i / 64, none⟩ = false) (hz : w.cell? ⟨g2, i / 64 / 64, none⟩ = some (.int .u64 z)) (fz : w.frozen? ⟨g2, i / 64 / 64, none⟩ = false)
    (wx : Wd x) (wz : Wd z) (e1 : D ≠ g1) (e2 : D ≠ g2) (e3 : g1 ≠ g2) :
    Calls Try.prog 18 #[.pointer (some ⟨D, 0, none⟩), .int .i64 (i : Int)] w fun e w' => e = .returned (.tuple #[]) ∧
      Hid (Same w' (if clr x (i % 64) = 0 then (w.setCell ⟨g1, i / 64, none⟩ (.int .u64 (clr x (i % 64)))).setCell ⟨g2, i / 64 / 64, none⟩ (.int .u64 (clr z (i / 64 % 64))) else w.setCell ⟨g1, i / 64, none⟩ (.int .u64 (clr x (i % 64))))) := by
  have k1 : (i : Int) / 64 < (n1 : Int) := by omega
  have k2 : (0 : Int) ≤ (i : Int) / 64 := by omega
  have k3 : (i : Int) / 64 / 64 < (n2 : Int) := by omega
  have k4 : (0 : Int) ≤ (i : Int) / 64 / 64 := by omega
  have x0 := wx.1
  have x1 := wx.2
  obtain ⟨y, hy⟩ : ∃ y, bits BinOp.andNot IntKind.u64 x (IntKind.u64.wrap (2 ^ (i % 64))) = y := ⟨_, rfl⟩
  obtain ⟨v, hv⟩ : ∃ y, bits BinOp.andNot IntKind.u64 z (IntKind.u64.wrap (2 ^ (i / 64 % 64))) = y := ⟨_, rfl⟩
  have HY : Hid (clr x (i % 64) = y) := by show _ = _; rw [← hy, clr_model x (i % 64) wx (Nat.mod_lt _ (by decide))]
  have HV : Hid (clr z (i / 64 % 64) = v) := by show _ = _; rw [← hv, clr_model z (i / 64 % 64) wz (Nat.mod_lt _ (by decide))]
  have z0 := wz.1
  have z1 := wz.2
  clear wx wz
  rw [HY.out, HV.out]
  by_cases h0 : y = 0
  · rw [if_pos h0]
    have h0' : (y == 0) = true := by simpa using h0
    clear h0
    go_enter Try.func18, Try.ntmps18
    go_wp2
    go_region
    go_wp2
    go_region
    go_end0
    exact ⟨rfl, rfl, rfl, rfl, rfl⟩
  · rw [if_neg h0]
    have h0' : (y == 0) = false := by simpa using h0
    clear h0
    go_enter Try.func18, Try.ntmps18
    go_wp2
    go_region
    go_wp2
    go_end0
    exact ⟨rfl, rfl, rfl, rfl, rfl⟩


/-- A row that holds something lies at a plain address. -/
theorem plain_row {w : World} {x : Addr} {len : Nat} {f : Nat → Value} (hc : ∀ i, i < len → w.cell? (x.add i) = some (f i)) (h : 0 < len) :
    ∃ b off, x = ⟨b, off, none⟩ ∧ b < w.heap.size ∧ ∀ i, i < len → w.cell? ⟨b, off + i, none⟩ = some (f i) := by
  obtain ⟨b, off, spot⟩ := x
  have h0 := hc 0 h
  have hspot : spot = none := by simpa [Addr.add] using World.cell?_spot h0
  subst hspot
  have hp : ∀ i, i < len → w.cell? ⟨b, off + i, none⟩ = some (f i) := fun i hi => by rw [← add_plain]; exact hc i hi
  exact ⟨b, off, rfl, World.block_lt_of_cell? _ _ (hp 0 h), hp⟩

theorem clone_info : (Try.prog.info? 30).map (fun i => (i.zero, i.size, i.bytes)) = some (some (.int .u64 0), 1, 8) := by kernel_rfl

/-- Of nil: nil. -/
theorem clone_nil (w : World) : Calls Try.prog 8 #[.slice none 0 0] w fun e w' => e = .returned (.slice none 0 0) ∧ w' = w := by
  have hnil := fun w => Lib.run_eql_slice_nil (P := Try.prog) w 22 30 none 0 0 0 0 Try.underlying22
  go_enter Try.func8, Try.ntmps8
  go_wp2
  go_ret
  exact ⟨rfl, rfl⟩

set_option maxHeartbeats 1000000 in
theorem clone_any (x : Addr) (len cap : Nat) (zs : List Int) (w : World) (hsz : len ≤ 1048576)
    (hc : ∀ i, i < len → w.cell? (x.add i) = some (.int .u64 (zs.getD i 0))) :
    Calls Try.prog 8 #[.slice (some x) len cap] w fun e w' => e = .returned (.slice (some ⟨w.heap.size, 0, none⟩) len len) ∧ w'.rowIs w.heap.size 30 len (fun i => .int .u64 (zs.getD i 0)) ∧
      Below w.heap.size w w' ∧ w'.heap.size = w.heap.size + 1 := by
  have hnil := fun w => Lib.run_eql_slice_nil (P := Try.prog) w 22 30 (some x) len cap 0 0 Try.underlying22
  have hmk := run_make_row' (P := Try.prog) 22 30 (.int .u64 0) 8 Try.underlying22 clone_info rfl .i64 .i64 len (by omega) (by omega)
  have HC : Hid (∀ i, i < len → w.cell? (x.add i) = some (.int .u64 (zs.getD i 0))) := hc
  clear hc
  go_enter Try.func8, Try.ntmps8
  go_wp2
  go_loopw [4] (fun t wr => ∃ k : Nat, k ≤ len ∧ t = .int .i64 (k : Int) ∧ wr.rowIs w.heap.size 30 len (fun i => if i < k then .int .u64 (zs.getD i 0) else .int .u64 0) ∧ Below w.heap.size w wr ∧ Hid (wr.heap.size = w.heap.size + 1)) (fun t _ => len - (intOf t).toNat)
  case atStart => exact ⟨0, Nat.zero_le _, rfl, (World.rowIs_made w _ len 30).congr (fun i _ => by simp), (Below.refl _ _).alloc (Nat.le_refl _) _, by show _ = _; simp⟩
  case round =>
    obtain ⟨k, hk, rfl, hrow, hbel, HS⟩ := hrel
    by_cases hlt : k < len
    · have hlt' : (k : Int) < (len : Int) := by omega
      obtain ⟨b, off, rfl, hb, hpl⟩ := plain_row HC.out (by omega)
      have c1 : wr.cell? ⟨b, off + k, none⟩ = some (.int .u64 (zs.getD k 0)) := by
        rw [hbel.cell (p := ⟨b, off + k, none⟩) hb]; exact hpl k hlt
      have c2 := hrow.cell hlt
      have f2 := hrow.frozen k
      have HR : Hid ((wr.setCell ⟨w.heap.size, k, none⟩ (.int .u64 (zs.getD k 0))).rowIs w.heap.size 30 len (fun i => if i < k + 1 then .int .u64 (zs.getD i 0) else .int .u64 0)) := by
        refine (hrow.set k _).congr (fun i _ => ?_)
        by_cases e : i = k
        · subst e; simp
        · rw [if_neg e]
          by_cases hl : i < k
          · rw [if_pos hl, if_pos (by omega)]
          · rw [if_neg hl, if_neg (by omega)]
      have HB : Hid (Below w.heap.size w (wr.setCell ⟨w.heap.size, k, none⟩ (.int .u64 (zs.getD k 0)))) := hbel.setCell (Nat.le_refl _) _
      clear hpl hrow
      generalize zs.getD k 0 = v at c1 HR HB
      go_wp2
      go_roundw
      case rel => exact ⟨k + 1, by omega, by go_num, HR.out, HB.out, by show _ = _; rw [← HS.out]; simp [World.setCell]⟩
      case measure => simp [intOf]; omega
    · have hkl : k = len := by omega
      subst hkl
      go_wp2
      go_ret
      exact ⟨rfl, hrow.congr (fun i hi => by rw [if_pos hi]), hbel, HS.out⟩

/-- Block g is a row of n words, xs. -/
def Row (w : World) (g : Nat) (xs : List Int) : Prop := w.rowIs g 30 xs.length (fun j => .int .u64 (xs.getD j 0))

theorem Row.rd {w : World} {g : Nat} {xs : List Int} (h : Row w g xs) (n : Nat) (hn : n = xs.length) : Rd w (.slice (some ⟨g, 0, none⟩) n n) xs := by
  subst hn
  exact ⟨_, _, rfl, Nat.le_refl _, fun h0 => ⟨g, 0, rfl, h.lt, fun i hi => by rw [Nat.zero_add]; exact h.cell hi⟩⟩

/-- Nothing but the blocks g1, g2 has turned, and new blocks. -/
structure Off (w w' : World) (g1 g2 : Nat) : Prop where
  os : w'.os = w.os
  tape : w'.tape = w.tape
  output : w'.output = w.output
  size : w.heap.size ≤ w'.heap.size
  block : ∀ k, k < w.heap.size → k ≠ g1 → k ≠ g2 → w'.heap[k]? = w.heap[k]?

theorem row_set {w : World} {g k : Nat} {xs : List Int} {v : Int} (h : Row w g xs) (hk : k < xs.length) : Row (w.setCell ⟨g, k, none⟩ (.int .u64 v)) g (xs.set k v) := by
  unfold Row
  rw [List.length_set]
  refine (h.set k _).congr (fun i hi => ?_)
  rw [getD_set xs k i v hk]
  split <;> rfl

set_option maxRecDepth 100000 in
set_option maxHeartbeats 2000000 in
theorem shim_any (g1 g2 n1 n2 i : Nat) (ws nz : List Int) (w : World) (hi : i ≤ 9223372036854775807) (hk : i / 64 < n1) (hm : i / 64 / 64 < n2) (l1 : n1 = ws.length) (l2 : n2 = nz.length) (hn1 : n1 ≤ 1000000) (hn2 : n2 ≤ 1000000)
    (r1 : Row w g1 ws) (r2 : Row w g2 nz) (ww : Wds ws) (wn : Wds nz) (e3 : g1 ≠ g2) :
    Calls Try.prog 15 #[.slice (some ⟨g1, 0, none⟩) n1 n1, .slice (some ⟨g2, 0, none⟩) n2 n2, .int .i64 (i : Int)] w fun e w' => e = .returned (.tuple #[.slice (some ⟨g1, 0, none⟩) n1 n1, .slice (some ⟨g2, 0, none⟩) n2 n2]) ∧
      Hid (Row w' g1 (w2 ws i) ∧ Row w' g2 (Bit.n2 ws nz i) ∧ Off w w' g1 g2) := by
  have hg1 := r1.lt
  have hg2 := r2.lt
  obtain ⟨W, hW⟩ : ∃ W, W = w.alloc (.cells #[.slice (some ⟨g1, 0, none⟩) n1 n1, .slice (some ⟨g2, 0, none⟩) n2 n2] 32) := ⟨_, rfl⟩
  have d0 : W.cell? ⟨w.heap.size, 0, none⟩ = some (.slice (some ⟨g1, 0, none⟩) n1 n1) := by rw [hW]; simp
  have d1 : W.cell? ⟨w.heap.size, 1, none⟩ = some (.slice (some ⟨g2, 0, none⟩) n2 n2) := by rw [hW]; simp
  have R1 : Row W g1 ws := by rw [hW]; exact World.rowIs.alloc r1 _
  have R2 : Row W g2 nz := by rw [hW]; exact World.rowIs.alloc r2 _
  have hWs : W.heap.size = w.heap.size + 1 := by rw [hW]; simp
  have H := remove_any w.heap.size g1 g2 n1 n2 n1 n2 i (ws.getD (i / 64) 0) (nz.getD (i / 64 / 64) 0) W hi hk hm hn1 hn2 d0 d1 (R1.cell (by omega)) (R1.frozen _) (R2.cell (by omega)) (R2.frozen _) (ww _ (by omega)) (wn _ (by omega)) (by omega) (by omega) e3
  have HF : Hid (∀ w' : World, Same w' (if clr (ws.getD (i / 64) 0) (i % 64) = 0 then (W.setCell ⟨g1, i / 64, none⟩ (.int .u64 (clr (ws.getD (i / 64) 0) (i % 64)))).setCell ⟨g2, i / 64 / 64, none⟩ (.int .u64 (clr (nz.getD (i / 64 / 64) 0) (i / 64 % 64))) else W.setCell ⟨g1, i / 64, none⟩ (.int .u64 (clr (ws.getD (i / 64) 0) (i % 64)))) →
      (Row w' g1 (w2 ws i) ∧ Row w' g2 (Bit.n2 ws nz i) ∧ Off w w' g1 g2) ∧ w'.cell? ⟨w.heap.size, 0, none⟩ = some (.slice (some ⟨g1, 0, none⟩) n1 n1) ∧ w'.cell? ⟨w.heap.size, 1, none⟩ = some (.slice (some ⟨g2, 0, none⟩) n2 n2)) := by
    intro w' ha
    have key : ∀ V : World, V = (if clr (ws.getD (i / 64) 0) (i % 64) = 0 then (W.setCell ⟨g1, i / 64, none⟩ (.int .u64 (clr (ws.getD (i / 64) 0) (i % 64)))).setCell ⟨g2, i / 64 / 64, none⟩ (.int .u64 (clr (nz.getD (i / 64 / 64) 0) (i / 64 % 64))) else W.setCell ⟨g1, i / 64, none⟩ (.int .u64 (clr (ws.getD (i / 64) 0) (i % 64)))) →
        (Row V g1 (w2 ws i) ∧ Row V g2 (Bit.n2 ws nz i) ∧ Off w V g1 g2) ∧ V.cell? ⟨w.heap.size, 0, none⟩ = some (.slice (some ⟨g1, 0, none⟩) n1 n1) ∧ V.cell? ⟨w.heap.size, 1, none⟩ = some (.slice (some ⟨g2, 0, none⟩) n2 n2) := by
      intro V hV
      have hoW : ∀ k, k < w.heap.size → W.heap[k]? = w.heap[k]? := fun k hk => by rw [hW]; exact Below.heap_alloc w _ k hk
      by_cases hz : clr (ws.getD (i / 64) 0) (i % 64) = 0
      · rw [if_pos hz] at hV
        have hblk : ∀ k, k ≠ g1 → k ≠ g2 → V.heap[k]? = W.heap[k]? := fun k h1 h2 => by
          rw [hV, Below.heap_setCell _ _ _ k h2, Below.heap_setCell _ _ _ k h1]
        refine ⟨⟨?_, ?_, ?_⟩, ?_, ?_⟩
        · rw [hV]; exact World.rowIs.setOther (row_set R1 (by omega)) e3 _
        · unfold Bit.n2
          rw [if_pos hz, hV]
          exact row_set (World.rowIs.setOther R2 (Ne.symm e3) _) (by omega)
        · exact ⟨by rw [hV, hW]; rfl, by rw [hV, hW]; rfl, by rw [hV, hW]; rfl, by rw [hV, hW]; simp [World.setCell], fun k hk h1 h2 => (hblk k h1 h2).trans (hoW k hk)⟩
        · rw [World.cell?_of_block (w := W) (a := ⟨w.heap.size, 0, none⟩) (hblk w.heap.size (by omega) (by omega))]; exact d0
        · rw [World.cell?_of_block (w := W) (a := ⟨w.heap.size, 1, none⟩) (hblk w.heap.size (by omega) (by omega))]; exact d1
      · rw [if_neg hz] at hV
        have hblk : ∀ k, k ≠ g1 → k ≠ g2 → V.heap[k]? = W.heap[k]? := fun k h1 h2 => by
          rw [hV, Below.heap_setCell _ _ _ k h1]
        refine ⟨⟨?_, ?_, ?_⟩, ?_, ?_⟩
        · rw [hV]; exact row_set R1 (by omega)
        · unfold Bit.n2
          rw [if_neg hz, hV]
          exact World.rowIs.setOther R2 (Ne.symm e3) _
        · exact ⟨by rw [hV, hW]; rfl, by rw [hV, hW]; rfl, by rw [hV, hW]; rfl, by rw [hV, hW]; simp [World.setCell], fun k hk h1 h2 => (hblk k h1 h2).trans (hoW k hk)⟩
        · rw [World.cell?_of_block (w := W) (a := ⟨w.heap.size, 0, none⟩) (hblk w.heap.size (by omega) (by omega))]; exact d0
        · rw [World.cell?_of_block (w := W) (a := ⟨w.heap.size, 1, none⟩) (hblk w.heap.size (by omega) (by omega))]; exact d1
    obtain ⟨⟨a1, a2, a3⟩, a4, a5⟩ := key _ rfl
    obtain ⟨s1, s2, s3, s4⟩ := ha
    have hb : ∀ k : Nat, w'.heap[k]? = (if clr (ws.getD (i / 64) 0) (i % 64) = 0 then (W.setCell ⟨g1, i / 64, none⟩ (.int .u64 (clr (ws.getD (i / 64) 0) (i % 64)))).setCell ⟨g2, i / 64 / 64, none⟩ (.int .u64 (clr (nz.getD (i / 64 / 64) 0) (i / 64 % 64))) else W.setCell ⟨g1, i / 64, none⟩ (.int .u64 (clr (ws.getD (i / 64) 0) (i % 64)))).heap[k]? := fun k => by rw [s1]
    exact ⟨⟨World.rowIs.of_block a1 (hb _), World.rowIs.of_block a2 (hb _), s2.trans a3.os, s3.trans a3.tape, s4.trans a3.output, by rw [s1]; exact a3.size, fun k hk h1 h2 => (hb k).trans (a3.block k hk h1 h2)⟩, (World.cell?_of_block (a := ⟨w.heap.size, 0, none⟩) (hb _)).trans a4, (World.cell?_of_block (a := ⟨w.heap.size, 1, none⟩) (hb _)).trans a5⟩
  have HR := hide2 H True.intro
  clear H d0 d1 R1 R2 hWs
  subst hW
  clear r1 r2 ww wn l1 l2
  go_enter Try.func15, Try.ntmps15
  go_wp2_with fail
  refine HR.out.1.mono ?_
  rintro e w1 ⟨rfl, HA⟩
  obtain ⟨f1, f2, f3⟩ := HF.out w1 HA.out
  have HE := hide2 f1 True.intro
  clear f1
  go_wp2_with fail
  go_quiet (fail)
  go_wp2
  go_ret2
  obtain ⟨a1, a2, a3⟩ := HE.out.1
  exact ⟨rfl, World.rowIs.of_block a1 rfl, World.rowIs.of_block a2 rfl, ⟨a3.os, a3.tape, a3.output, a3.size, a3.block⟩⟩

theorem bytes14 (a b : Option Addr) (n m c d : Nat) (i : Int) (w : World) (hn : n ≤ 9223372036854775807) (hm : m ≤ 9223372036854775807) :
    Calls Try.prog 14 #[.slice a n c, .slice b m d, .int .i64 i] w fun e w' => (∃ r, e = .returned (.bool r)) ∧ w' = w := by
  go_enter Try.func14, Try.ntmps14
  go_wp2
  all_goals (go_ret; exact ⟨⟨_, rfl⟩, rfl⟩)

end Go.Proofs.Qxb6603844a.Bit
