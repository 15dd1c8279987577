/-
  slices.Clone (17), slices.DeleteFunc (16), the closure of NewReadView (18), met by the shelf's contracts.
-/
import Derived.Test.Qxb6605226aViewA
import Derived.Shelf.SlicesE.DeleteFunc
import Derived.Shelf.SlicesE.Clone
namespace Go.Proofs.Qxb6605226a.View
open Go.ChangeShapes Go.WideShapes Go.ChangeAt Go.RowKit Mem Go.Shelf Go.Lib Go.Sort
set_option linter.unusedVariables false
set_option linter.unusedSimpArgs false

/-- The numbers of the shelf's toy, at this program. -/
def renC : Ren := ⟨fun k => if k = 41 then 17 else k, fun t => if t = 22 then 25 else if t = 23 then 27 else t, fun g => g⟩
def renD : Ren := ⟨fun k => if k = 6 then 21 else if k = 10 then 16 else k, fun t => if t = 22 then 25 else if t = 23 then 27 else if t = 25 then 40 else t, fun g => g⟩

set_option maxRecDepth 100000 in
theorem layC : SlLaysE0.n41 Try.prog renC :=
  { mixed := by kernel_rfl,
    f41 := ⟨Try.f17.name, by kernel_rfl, by kernel_rfl⟩,
    t4 := by kernel_rfl,
    a4 := fun w => by kernel_rfl,
    z4 := fun w => by kernel_rfl,
    v4 := fun w => by kernel_rfl,
    t22 := by kernel_rfl,
    a22 := fun w => by kernel_rfl,
    z22 := fun w => by kernel_rfl,
    v22 := fun w => by kernel_rfl }

set_option maxRecDepth 100000 in
theorem layD : SlLaysH.n10 Try.prog renD :=
  { mixed := by kernel_rfl,
    f6 := ⟨Try.f21.name, by kernel_rfl, by kernel_rfl⟩,
    f10 := ⟨Try.f16.name, by kernel_rfl, by kernel_rfl⟩,
    t0 := by kernel_rfl,
    a0 := fun w => by kernel_rfl,
    z0 := fun w => by kernel_rfl,
    v0 := fun w => by kernel_rfl,
    t3 := by kernel_rfl,
    a3 := fun w => by kernel_rfl,
    z3 := fun w => by kernel_rfl,
    v3 := fun w => by kernel_rfl,
    t4 := by kernel_rfl,
    a4 := fun w => by kernel_rfl,
    z4 := fun w => by kernel_rfl,
    v4 := fun w => by kernel_rfl,
    t22 := by kernel_rfl,
    a22 := fun w => by kernel_rfl,
    z22 := fun w => by kernel_rfl,
    v22 := fun w => by kernel_rfl,
    a23 := fun w => by kernel_rfl,
    z23 := fun w => by kernel_rfl,
    t25 := by kernel_rfl,
    a25 := fun w => by kernel_rfl,
    z25 := fun w => by kernel_rfl,
    v25 := fun w => by kernel_rfl }

open Srt (encU)

/-- A slice of TrxIDs in a block from B on, writable; or nil. -/
def HV (B : Nat) (w : World) (v : Value) (zs : List Int) : Prop :=
  (v = .slice none 0 0 ∧ zs = []) ∨ ∃ b C, v = .slice (some ⟨b, 0, none⟩) zs.length C ∧ B ≤ b ∧ b < w.heap.size ∧ zs.length ≤ C ∧ Holds encU w b 0 zs.toArray

theorem toArray_get (zs : List Int) (i : Nat) : zs.toArray[i]! = zs.getD i 0 := by
  by_cases h : i < zs.length
  · rw [getElem!_pos zs.toArray i (by simpa using h)]
    simp [h]
  · rw [getElem!_neg zs.toArray i (by simpa using h)]
    simp [List.getElem?_eq_none (show zs.length ≤ i by omega)]

theorem Vec.hv {B : Nat} {w : World} {v : Value} {zs : List Int} (h : Vec B w v zs) : HV B w v zs := by
  rcases h with h | ⟨b, C, g, rfl, hb, hc, hr, hg⟩
  · exact .inl h
  · refine .inr ⟨b, C, rfl, hb, hr.lt, hc, fun j hj => ?_⟩
    have hj' : j < zs.length := by simpa using hj
    rw [Nat.zero_add, toArray_get]
    exact ⟨by rw [hr.cell (by omega), hg j hj'], hr.frozen j⟩

theorem HV.rd {B : Nat} {w : World} {v : Value} {zs : List Int} (h : HV B w v zs) : RdS (fun b => B ≤ b) .u64 w v zs := by
  rcases h with ⟨rfl, rfl⟩ | ⟨b, C, rfl, hb, hlt, hc, hH⟩
  · exact ⟨none, 0, rfl, by simp, fun h0 => by simp at h0⟩
  · refine ⟨_, _, rfl, hc, fun h0 => ⟨b, 0, rfl, hb, hlt, fun i hi => ?_⟩⟩
    rw [(hH i (by simpa using hi)).1, toArray_get]

theorem HV.low {B B' : Nat} {w : World} {v : Value} {zs : List Int} (h : HV B w v zs) (hB : B' ≤ B) : HV B' w v zs := by
  rcases h with h | ⟨b, C, h1, h2, h3, h4, h5⟩
  · exact .inl h
  · exact .inr ⟨b, C, h1, by omega, h3, h4, h5⟩

theorem HV.kept {B : Nat} {w w' : World} {v : Value} {zs : List Int} (h : HV B w v zs) (hb : ∀ b, B ≤ b → b < w.heap.size → w'.heap[b]? = w.heap[b]?) (hs : w.heap.size ≤ w'.heap.size) : HV B w' v zs := by
  rcases h with h | ⟨b, C, h1, h2, h3, h4, h5⟩
  · exact .inl h
  · refine .inr ⟨b, C, h1, h2, by omega, h4, fun j hj => ?_⟩
    have e := hb b h2 h3
    exact ⟨(World.cell?_of_block (a := ⟨b, 0 + j, none⟩) e).trans (h5 j hj).1, (World.frozen?_of_block (a := ⟨b, 0 + j, none⟩) e).trans (h5 j hj).2⟩

theorem below_put {B : Nat} {w : World} {α : Type} [Inhabited α] (enc : α → Value) (n blk off : Nat) (d : Array α) (os : Array Obj) (hB : B ≤ blk) (hs : B ≤ w.heap.size) : Below B w (grow (putRow enc (Sort.ahead w n) blk off d) os) := by
  refine ⟨rfl, rfl, rfl, by simp, fun k hk => ?_⟩
  rw [heap_grow_old _ _ (by simp; omega)]
  show (w.heap.modify blk _)[k]? = _
  rw [Array.getElem?_modify, if_neg (by omega)]

theorem clone_hv (B : Nat) (v : Value) (zs : List Int) (w : World) (h : HV B w v zs) (hl : zs.length ≤ 2000000) :
    Calls Try.prog 17 #[v] w (fun e w' => ∃ v', e = .returned v' ∧ HV w.heap.size w' v' zs ∧ Below w.heap.size w w') := by
  rcases h with ⟨rfl, rfl⟩ | ⟨b, C, rfl, hb, hlt, hc, hH⟩
  · have hcon := AnyE.slices_Clone_nil layC 0 0 w
    change Calls Try.prog 17 _ _ _ at hcon
    refine hcon.mono ?_
    rintro e w' ⟨rfl, rfl⟩
    exact ⟨_, rfl, .inl ⟨rfl, rfl⟩, Below.refl _ _⟩
  · obtain ⟨i0, h0, h1, h2, h3⟩ : ∃ i0, Try.prog.info? 27 = some i0 ∧ i0.zero = some (.int .u64 0) ∧ i0.size = 1 ∧ i0.bytes = 8 := by
      have := tinfo27
      cases hq : Try.prog.info? 27 with
      | none => rw [hq] at this; cases this
      | some i0 =>
        rw [hq] at this
        simp at this
        exact ⟨i0, rfl, this.1, this.2.1, this.2.2⟩
    have hcon := AnyE.slices_Clone layC i0 (.int .u64 0) 1 8 h0 h1 h2 h3 rfl (by omega) (fun w => by kernel_rfl) b 0 zs.length C (zs.map (Value.int .u64)) w (by simp) (by unfold maxLen; omega) (by omega)
      (fun j u hu => by
        rw [List.getElem?_map] at hu
        obtain ⟨z, hz, rfl⟩ := Option.map_eq_some_iff.1 hu
        have hj : j < zs.length := (List.getElem?_eq_some_iff.1 hz).1
        rw [(hH j (by simpa using hj)).1, toArray_get]
        simp [hz])
      (fun u hu => by
        obtain ⟨z, _, rfl⟩ := List.mem_map.1 hu
        rfl)
    change Calls Try.prog 17 _ _ _ at hcon
    refine hcon.mono ?_
    rintro e w' ⟨v', rfl, hrow, hnn, hbel⟩
    refine ⟨v', rfl, ?_, hbel⟩
    rcases hrow.2 with ⟨hnil, _⟩ | ⟨g, cap, cur, rfl, hbase, hblk, q1, q2, q3, q4⟩
    · exact absurd hnil hnn
    · refine .inr ⟨g, cap, rfl, hbase, (Array.getElem?_eq_some_iff.1 hblk).1, q1, fun j hj => ?_⟩
      have hj' : j < zs.length := by simpa using hj
      rw [Nat.zero_add]
      refine ⟨?_, frozen_of_row w' g j cur _ hblk⟩
      rw [cell_of_row w' g j cur _ (0, 0) hblk, toArray_get]
      have q5 : (cur.toList.take (zs.length * 1))[j]? = (zs.map (Value.int .u64))[j]? := by rw [q4]
      rw [List.getElem?_take, if_pos (by omega), List.getElem?_map] at q5
      rw [← Array.getElem?_toList, q5]
      simp [hj']

theorem closure18 (own x : Int) (K : Nat) (W : World) (hc : W.cell? ⟨K, 0, none⟩ = some (.int .u64 own)) :
    FnGives Try.prog 18 #[.pointer (some ⟨K, 0, none⟩)] #[.int .u64 x] (.bool (x == own)) W := by
  show Calls Try.prog 18 #[.int .u64 x, .pointer (some ⟨K, 0, none⟩)] W _
  go_enter Try.func18, Try.ntmps18
  go_wp2
  all_goals (go_ret; exact ⟨by simp_all, 0, rfl⟩)

theorem index_nil (c : Nat) (f : Value) (w : World) : Calls Try.prog 21 #[.slice none 0 c, f] w fun e w' => e = .returned (.int .i64 (-1)) ∧ w' = w := by
  go_enter Try.func21, Try.ntmps21
  go_wp2_with fail
  go_loop [5, 8] (fun _ t => t = .int .i64 0) (fun _ _ => 0)
  case atStart => rfl
  case round =>
    subst hrel
    go_wp2
    go_ret
    exact ⟨rfl, rfl⟩

set_option maxHeartbeats 1000000 in
theorem delete_nil (f : Value) (w : World) : Calls Try.prog 16 #[.slice none 0 0, f] w fun e w' => e = .returned (.slice none 0 0) ∧ w' = w := by
  go_enter Try.func16, Try.ntmps16
  go_wp2_with fail
  refine (index_nil 0 f w).mono ?_
  rintro e w' ⟨rfl, rfl⟩
  go_wp2
  go_ret
  exact ⟨rfl, rfl⟩

/-- The entries other than own. -/
def others (own : Int) (zs : List Int) : List Int := zs.filter (fun y => !(y == own))

theorem pred18 (own : Int) (K : Nat) (w : World) (hK : K < w.heap.size) (hcell : w.cell? ⟨K, 0, none⟩ = some (.int .u64 own)) :
    PredAt Try.prog 18 #[.pointer (some ⟨K, 0, none⟩)] encU (fun x => x == own) w :=
  fun W x hb => closure18 own x K W ((hb.cell (p := ⟨K, 0, none⟩) hK).trans hcell)

theorem over18 (own : Int) (K blk off size : Nat) (w : World) (hK : K < w.heap.size) (hne : K ≠ blk) (hcell : w.cell? ⟨K, 0, none⟩ = some (.int .u64 own)) :
    PredOver Try.prog 18 #[.pointer (some ⟨K, 0, none⟩)] encU (fun x => x == own) blk off size w :=
  fun n os dk x _ => closure18 own x K _ (by
    unfold sortWorld
    rw [cell?_grow _ _ _ (by show K < (putRow _ _ _ _ _).heap.size; rw [size_putRow]; exact hK), cell?_putRow_other _ _ blk off _ _ (Or.inl hne)]
    exact hcell)

theorem holds_pre {w : World} {b off : Nat} {xs ys : List Int} (h : Holds encU w b off (xs ++ ys).toArray) : Holds encU w b off xs.toArray := fun j hj => by
  have hj' : j < xs.length := by simpa using hj
  have := h j (by simp; omega)
  rw [toArray_get] at this ⊢
  have e : (xs ++ ys).getD j 0 = xs.getD j 0 := by simp [List.getElem?_append_left hj']
  rw [e] at this
  exact this

theorem delete_hv (own : Int) (B K : Nat) (v : Value) (zs : List Int) (w : World) (h : HV B w v zs) (hl : zs.length ≤ 2000000) (hK : K < w.heap.size) (hKB : K < B) (hcell : w.cell? ⟨K, 0, none⟩ = some (.int .u64 own)) :
    Calls Try.prog 16 #[v, .func (.func 18) #[] #[.pointer (some ⟨K, 0, none⟩)]] w (fun e w' => ∃ v', e = .returned v' ∧ HV B w' v' (others own zs) ∧ Below B w w') := by
  rcases h with ⟨rfl, rfl⟩ | ⟨b, C, rfl, hb, hlt, hc, hH⟩
  · refine (delete_nil _ w).mono ?_
    rintro e w' ⟨rfl, rfl⟩
    exact ⟨_, rfl, .inl ⟨rfl, rfl⟩, Below.refl _ _⟩
  · have eg : ∀ args w, (callFunc 18 args).run Try.prog w = .ok (.enter 18 args) w := enters_of Try.func18 (by kernel_rfl) rfl
    have hcon := AnyE.slices_DeleteFunc layD encU (fun _ => rfl) (fun x => x == own) 18 #[.pointer (some ⟨K, 0, none⟩)] eg 0 (fun w => by kernel_rfl) b 0 C zs.toArray w
      (pred18 own K w hK hcell) (over18 own K b 0 zs.toArray.size w hK (by omega) hcell) hH (by simp; omega) (by simpa using hc)
    change Calls Try.prog 16 _ _ _ at hcon
    simp only [List.size_toArray] at hcon
    refine hcon.mono ?_
    rintro e w' ⟨rfl, q, rfl⟩
    have hle : (others own zs).length ≤ zs.length := List.length_filter_le _ _
    refine ⟨_, rfl, .inr ⟨b, C, rfl, hb, by simpa using hlt, by omega, ?_⟩, ?_⟩
    · refine holds_pre (ys := List.replicate (zs.length - (others own zs).length) 0) ?_
      exact holds_putRow encU _ b 0 zs.toArray _ (holds_ahead encU w q b 0 zs.toArray hH) (by simp; unfold others at hle; omega)
    · have := below_put (B := B) (w := w) encU q b 0 ((zs.filter fun x => !(x == own)) ++ List.replicate (zs.length - (zs.filter fun x => !(x == own)).length) 0).toArray #[] hb (by omega)
      rw [grow_empty] at this
      exact this

end Go.Proofs.Qxb6605226a.View
