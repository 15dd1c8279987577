/-
  The walks of the four copies: zzCopyBytes (10), zzCopy64 (24), zzCopy32 (25), zzCopyInts (26). Each hands back a new row that holds what the slice held.
-/
import Derived.Test.Qxb6604322aChecked
import Derived.WalkKit
import Derived.ProofKit
import Derived.OpenShut
import Derived.Below
import Derived.Deep.OwnRows
import Derived.Lib.SliceRun
namespace Go.Proofs.Qxb6604322a.Copies
open Go.ChangeShapes Go.WideShapes Go.ChangeAt Go.RowKit
set_option linter.unusedVariables false
set_option linter.unusedSimpArgs false

/-- A row that holds something lies at a plain address. -/
theorem plain_row {w : World} {x : Addr} {len : Nat} {f : Nat → Value} (hc : ∀ i, i < len → w.cell? (x.add i) = some (f i)) (h : 0 < len) :
    ∃ b off, x = ⟨b, off, none⟩ ∧ b < w.heap.size ∧ ∀ i, i < len → w.cell? ⟨b, off + i, none⟩ = some (f i) := by
  obtain ⟨b, off, spot⟩ := x
  have h0 := hc 0 h
  have hspot : spot = none := by simpa [Addr.add] using World.cell?_spot h0
  subst hspot
  have hp : ∀ i, i < len → w.cell? ⟨b, off + i, none⟩ = some (f i) := fun i hi => by rw [← add_plain]; exact hc i hi
  exact ⟨b, off, rfl, World.block_lt_of_cell? _ _ (hp 0 h), hp⟩

theorem bytes_info : (Try.prog.info? 5).map (fun i => (i.zero, i.size, i.bytes)) = some (some (.int .u8 0), 1, 1) := by kernel_rfl

/-- Of nil: nil. -/
theorem bytes_nil (w : World) : Calls Try.prog 10 #[.slice none 0 0] w fun e w' => e = .returned (.slice none 0 0) ∧ w' = w := by
  have hnil := fun w => Lib.run_eql_slice_nil (P := Try.prog) w 22 5 none 0 0 0 0 Try.underlying22
  go_enter Try.func10, Try.ntmps10
  go_wp2
  go_ret
  exact ⟨rfl, rfl⟩

set_option maxHeartbeats 1000000 in
theorem bytes_any (x : Addr) (len cap : Nat) (zs : List Int) (w : World) (hsz : len ≤ 1048576)
    (hc : ∀ i, i < len → w.cell? (x.add i) = some (.int .u8 (zs.getD i 0))) :
    Calls Try.prog 10 #[.slice (some x) len cap] w fun e w' => e = .returned (.slice (some ⟨w.heap.size, 0, none⟩) len len) ∧ w'.rowIs w.heap.size 5 len (fun i => .int .u8 (zs.getD i 0)) ∧
      Below w.heap.size w w' ∧ w'.heap.size = w.heap.size + 1 := by
  have hnil := fun w => Lib.run_eql_slice_nil (P := Try.prog) w 22 5 (some x) len cap 0 0 Try.underlying22
  have hmk := run_make_row' (P := Try.prog) 22 5 (.int .u8 0) 1 Try.underlying22 bytes_info rfl .i64 .i64 len (by omega) (by omega)
  have HC : Hid (∀ i, i < len → w.cell? (x.add i) = some (.int .u8 (zs.getD i 0))) := hc
  clear hc
  go_enter Try.func10, Try.ntmps10
  go_wp2
  go_loopw [4] (fun t wr => ∃ k : Nat, k ≤ len ∧ t = .int .i64 (k : Int) ∧ wr.rowIs w.heap.size 5 len (fun i => if i < k then .int .u8 (zs.getD i 0) else .int .u8 0) ∧ Below w.heap.size w wr ∧ Hid (wr.heap.size = w.heap.size + 1)) (fun t _ => len - (intOf t).toNat)
  case atStart => exact ⟨0, Nat.zero_le _, rfl, (World.rowIs_made w _ len 5).congr (fun i _ => by simp), (Below.refl _ _).alloc (Nat.le_refl _) _, by show _ = _; simp⟩
  case round =>
    obtain ⟨k, hk, rfl, hrow, hbel, HS⟩ := hrel
    by_cases hlt : k < len
    · have hlt' : (k : Int) < (len : Int) := by omega
      obtain ⟨b, off, rfl, hb, hpl⟩ := plain_row HC.out (by omega)
      have c1 : wr.cell? ⟨b, off + k, none⟩ = some (.int .u8 (zs.getD k 0)) := by
        rw [hbel.cell (p := ⟨b, off + k, none⟩) hb]; exact hpl k hlt
      have c2 := hrow.cell hlt
      have f2 := hrow.frozen k
      have HR : Hid ((wr.setCell ⟨w.heap.size, k, none⟩ (.int .u8 (zs.getD k 0))).rowIs w.heap.size 5 len (fun i => if i < k + 1 then .int .u8 (zs.getD i 0) else .int .u8 0)) := by
        refine (hrow.set k _).congr (fun i _ => ?_)
        by_cases e : i = k
        · subst e; simp
        · rw [if_neg e]
          by_cases hl : i < k
          · rw [if_pos hl, if_pos (by omega)]
          · rw [if_neg hl, if_neg (by omega)]
      have HB : Hid (Below w.heap.size w (wr.setCell ⟨w.heap.size, k, none⟩ (.int .u8 (zs.getD k 0)))) := hbel.setCell (Nat.le_refl _) _
      clear hpl hrow
      generalize zs.getD k 0 = v at c1 HR HB
      go_wp2
      go_roundw
      case rel => exact ⟨k + 1, by omega, by go_num, HR.out, HB.out, by show _ = _; rw [← HS.out]; simp [World.setCell]⟩
      case measure => simp [intOf]; omega
    · have hkl : k = len := by omega
      subst hkl
      go_wp2
      go_ret
      exact ⟨rfl, hrow.congr (fun i hi => by rw [if_pos hi]), hbel, HS.out⟩

theorem u64s_info : (Try.prog.info? 26).map (fun i => (i.zero, i.size, i.bytes)) = some (some (.int .u64 0), 1, 8) := by kernel_rfl

/-- Of nil: nil. -/
theorem u64s_nil (w : World) : Calls Try.prog 24 #[.slice none 0 0] w fun e w' => e = .returned (.slice none 0 0) ∧ w' = w := by
  have hnil := fun w => Lib.run_eql_slice_nil (P := Try.prog) w 29 26 none 0 0 0 0 Try.underlying29
  go_enter Try.func24, Try.ntmps24
  go_wp2
  go_ret
  exact ⟨rfl, rfl⟩

set_option maxHeartbeats 1000000 in
theorem u64s_any (x : Addr) (len cap : Nat) (zs : List Int) (w : World) (hsz : len ≤ 1048576)
    (hc : ∀ i, i < len → w.cell? (x.add i) = some (.int .u64 (zs.getD i 0))) :
    Calls Try.prog 24 #[.slice (some x) len cap] w fun e w' => e = .returned (.slice (some ⟨w.heap.size, 0, none⟩) len len) ∧ w'.rowIs w.heap.size 26 len (fun i => .int .u64 (zs.getD i 0)) ∧
      Below w.heap.size w w' ∧ w'.heap.size = w.heap.size + 1 := by
  have hnil := fun w => Lib.run_eql_slice_nil (P := Try.prog) w 29 26 (some x) len cap 0 0 Try.underlying29
  have hmk := run_make_row' (P := Try.prog) 29 26 (.int .u64 0) 8 Try.underlying29 u64s_info rfl .i64 .i64 len (by omega) (by omega)
  have HC : Hid (∀ i, i < len → w.cell? (x.add i) = some (.int .u64 (zs.getD i 0))) := hc
  clear hc
  go_enter Try.func24, Try.ntmps24
  go_wp2
  go_loopw [4] (fun t wr => ∃ k : Nat, k ≤ len ∧ t = .int .i64 (k : Int) ∧ wr.rowIs w.heap.size 26 len (fun i => if i < k then .int .u64 (zs.getD i 0) else .int .u64 0) ∧ Below w.heap.size w wr ∧ Hid (wr.heap.size = w.heap.size + 1)) (fun t _ => len - (intOf t).toNat)
  case atStart => exact ⟨0, Nat.zero_le _, rfl, (World.rowIs_made w _ len 26).congr (fun i _ => by simp), (Below.refl _ _).alloc (Nat.le_refl _) _, by show _ = _; simp⟩
  case round =>
    obtain ⟨k, hk, rfl, hrow, hbel, HS⟩ := hrel
    by_cases hlt : k < len
    · have hlt' : (k : Int) < (len : Int) := by omega
      obtain ⟨b, off, rfl, hb, hpl⟩ := plain_row HC.out (by omega)
      have c1 : wr.cell? ⟨b, off + k, none⟩ = some (.int .u64 (zs.getD k 0)) := by
        rw [hbel.cell (p := ⟨b, off + k, none⟩) hb]; exact hpl k hlt
      have c2 := hrow.cell hlt
      have f2 := hrow.frozen k
      have HR : Hid ((wr.setCell ⟨w.heap.size, k, none⟩ (.int .u64 (zs.getD k 0))).rowIs w.heap.size 26 len (fun i => if i < k + 1 then .int .u64 (zs.getD i 0) else .int .u64 0)) := by
        refine (hrow.set k _).congr (fun i _ => ?_)
        by_cases e : i = k
        · subst e; simp
        · rw [if_neg e]
          by_cases hl : i < k
          · rw [if_pos hl, if_pos (by omega)]
          · rw [if_neg hl, if_neg (by omega)]
      have HB : Hid (Below w.heap.size w (wr.setCell ⟨w.heap.size, k, none⟩ (.int .u64 (zs.getD k 0)))) := hbel.setCell (Nat.le_refl _) _
      clear hpl hrow
      generalize zs.getD k 0 = v at c1 HR HB
      go_wp2
      go_roundw
      case rel => exact ⟨k + 1, by omega, by go_num, HR.out, HB.out, by show _ = _; rw [← HS.out]; simp [World.setCell]⟩
      case measure => simp [intOf]; omega
    · have hkl : k = len := by omega
      subst hkl
      go_wp2
      go_ret
      exact ⟨rfl, hrow.congr (fun i hi => by rw [if_pos hi]), hbel, HS.out⟩

theorem u32s_info : (Try.prog.info? 43).map (fun i => (i.zero, i.size, i.bytes)) = some (some (.int .u32 0), 1, 4) := by kernel_rfl

/-- Of nil: nil. -/
theorem u32s_nil (w : World) : Calls Try.prog 25 #[.slice none 0 0] w fun e w' => e = .returned (.slice none 0 0) ∧ w' = w := by
  have hnil := fun w => Lib.run_eql_slice_nil (P := Try.prog) w 42 43 none 0 0 0 0 Try.underlying42
  go_enter Try.func25, Try.ntmps25
  go_wp2
  go_ret
  exact ⟨rfl, rfl⟩

set_option maxHeartbeats 1000000 in
theorem u32s_any (x : Addr) (len cap : Nat) (zs : List Int) (w : World) (hsz : len ≤ 1048576)
    (hc : ∀ i, i < len → w.cell? (x.add i) = some (.int .u32 (zs.getD i 0))) :
    Calls Try.prog 25 #[.slice (some x) len cap] w fun e w' => e = .returned (.slice (some ⟨w.heap.size, 0, none⟩) len len) ∧ w'.rowIs w.heap.size 43 len (fun i => .int .u32 (zs.getD i 0)) ∧
      Below w.heap.size w w' ∧ w'.heap.size = w.heap.size + 1 := by
  have hnil := fun w => Lib.run_eql_slice_nil (P := Try.prog) w 42 43 (some x) len cap 0 0 Try.underlying42
  have hmk := run_make_row' (P := Try.prog) 42 43 (.int .u32 0) 4 Try.underlying42 u32s_info rfl .i64 .i64 len (by omega) (by omega)
  have HC : Hid (∀ i, i < len → w.cell? (x.add i) = some (.int .u32 (zs.getD i 0))) := hc
  clear hc
  go_enter Try.func25, Try.ntmps25
  go_wp2
  go_loopw [4] (fun t wr => ∃ k : Nat, k ≤ len ∧ t = .int .i64 (k : Int) ∧ wr.rowIs w.heap.size 43 len (fun i => if i < k then .int .u32 (zs.getD i 0) else .int .u32 0) ∧ Below w.heap.size w wr ∧ Hid (wr.heap.size = w.heap.size + 1)) (fun t _ => len - (intOf t).toNat)
  case atStart => exact ⟨0, Nat.zero_le _, rfl, (World.rowIs_made w _ len 43).congr (fun i _ => by simp), (Below.refl _ _).alloc (Nat.le_refl _) _, by show _ = _; simp⟩
  case round =>
    obtain ⟨k, hk, rfl, hrow, hbel, HS⟩ := hrel
    by_cases hlt : k < len
    · have hlt' : (k : Int) < (len : Int) := by omega
      obtain ⟨b, off, rfl, hb, hpl⟩ := plain_row HC.out (by omega)
      have c1 : wr.cell? ⟨b, off + k, none⟩ = some (.int .u32 (zs.getD k 0)) := by
        rw [hbel.cell (p := ⟨b, off + k, none⟩) hb]; exact hpl k hlt
      have c2 := hrow.cell hlt
      have f2 := hrow.frozen k
      have HR : Hid ((wr.setCell ⟨w.heap.size, k, none⟩ (.int .u32 (zs.getD k 0))).rowIs w.heap.size 43 len (fun i => if i < k + 1 then .int .u32 (zs.getD i 0) else .int .u32 0)) := by
        refine (hrow.set k _).congr (fun i _ => ?_)
        by_cases e : i = k
        · subst e; simp
        · rw [if_neg e]
          by_cases hl : i < k
          · rw [if_pos hl, if_pos (by omega)]
          · rw [if_neg hl, if_neg (by omega)]
      have HB : Hid (Below w.heap.size w (wr.setCell ⟨w.heap.size, k, none⟩ (.int .u32 (zs.getD k 0)))) := hbel.setCell (Nat.le_refl _) _
      clear hpl hrow
      generalize zs.getD k 0 = v at c1 HR HB
      go_wp2
      go_roundw
      case rel => exact ⟨k + 1, by omega, by go_num, HR.out, HB.out, by show _ = _; rw [← HS.out]; simp [World.setCell]⟩
      case measure => simp [intOf]; omega
    · have hkl : k = len := by omega
      subst hkl
      go_wp2
      go_ret
      exact ⟨rfl, hrow.congr (fun i hi => by rw [if_pos hi]), hbel, HS.out⟩

theorem ints_info : (Try.prog.info? 3).map (fun i => (i.zero, i.size, i.bytes)) = some (some (.int .i64 0), 1, 8) := by kernel_rfl

/-- Of nil: nil. -/
theorem ints_nil (w : World) : Calls Try.prog 26 #[.slice none 0 0] w fun e w' => e = .returned (.slice none 0 0) ∧ w' = w := by
  have hnil := fun w => Lib.run_eql_slice_nil (P := Try.prog) w 44 3 none 0 0 0 0 Try.underlying44
  go_enter Try.func26, Try.ntmps26
  go_wp2
  go_ret
  exact ⟨rfl, rfl⟩

set_option maxHeartbeats 1000000 in
theorem ints_any (x : Addr) (len cap : Nat) (zs : List Int) (w : World) (hsz : len ≤ 1048576)
    (hc : ∀ i, i < len → w.cell? (x.add i) = some (.int .i64 (zs.getD i 0))) :
    Calls Try.prog 26 #[.slice (some x) len cap] w fun e w' => e = .returned (.slice (some ⟨w.heap.size, 0, none⟩) len len) ∧ w'.rowIs w.heap.size 3 len (fun i => .int .i64 (zs.getD i 0)) ∧
      Below w.heap.size w w' ∧ w'.heap.size = w.heap.size + 1 := by
  have hnil := fun w => Lib.run_eql_slice_nil (P := Try.prog) w 44 3 (some x) len cap 0 0 Try.underlying44
  have hmk := run_make_row' (P := Try.prog) 44 3 (.int .i64 0) 8 Try.underlying44 ints_info rfl .i64 .i64 len (by omega) (by omega)
  have HC : Hid (∀ i, i < len → w.cell? (x.add i) = some (.int .i64 (zs.getD i 0))) := hc
  clear hc
  go_enter Try.func26, Try.ntmps26
  go_wp2
  go_loopw [4] (fun t wr => ∃ k : Nat, k ≤ len ∧ t = .int .i64 (k : Int) ∧ wr.rowIs w.heap.size 3 len (fun i => if i < k then .int .i64 (zs.getD i 0) else .int .i64 0) ∧ Below w.heap.size w wr ∧ Hid (wr.heap.size = w.heap.size + 1)) (fun t _ => len - (intOf t).toNat)
  case atStart => exact ⟨0, Nat.zero_le _, rfl, (World.rowIs_made w _ len 3).congr (fun i _ => by simp), (Below.refl _ _).alloc (Nat.le_refl _) _, by show _ = _; simp⟩
  case round =>
    obtain ⟨k, hk, rfl, hrow, hbel, HS⟩ := hrel
    by_cases hlt : k < len
    · have hlt' : (k : Int) < (len : Int) := by omega
      obtain ⟨b, off, rfl, hb, hpl⟩ := plain_row HC.out (by omega)
      have c1 : wr.cell? ⟨b, off + k, none⟩ = some (.int .i64 (zs.getD k 0)) := by
        rw [hbel.cell (p := ⟨b, off + k, none⟩) hb]; exact hpl k hlt
      have c2 := hrow.cell hlt
      have f2 := hrow.frozen k
      have HR : Hid ((wr.setCell ⟨w.heap.size, k, none⟩ (.int .i64 (zs.getD k 0))).rowIs w.heap.size 3 len (fun i => if i < k + 1 then .int .i64 (zs.getD i 0) else .int .i64 0)) := by
        refine (hrow.set k _).congr (fun i _ => ?_)
        by_cases e : i = k
        · subst e; simp
        · rw [if_neg e]
          by_cases hl : i < k
          · rw [if_pos hl, if_pos (by omega)]
          · rw [if_neg hl, if_neg (by omega)]
      have HB : Hid (Below w.heap.size w (wr.setCell ⟨w.heap.size, k, none⟩ (.int .i64 (zs.getD k 0)))) := hbel.setCell (Nat.le_refl _) _
      clear hpl hrow
      generalize zs.getD k 0 = v at c1 HR HB
      go_wp2
      go_roundw
      case rel => exact ⟨k + 1, by omega, by go_num, HR.out, HB.out, by show _ = _; rw [← HS.out]; simp [World.setCell]⟩
      case measure => simp [intOf]; omega
    · have hkl : k = len := by omega
      subst hkl
      go_wp2
      go_ret
      exact ⟨rfl, hrow.congr (fun i hi => by rw [if_pos hi]), hbel, HS.out⟩

end Go.Proofs.Qxb6604322a.Copies
