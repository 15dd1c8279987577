/-
  (*ringDiff).position (37): the walk.
-/
import Derived.Test.Qxb6604322aRingA
import Derived.Deep.DeepCutAuto
import Derived.Laws.Pointers
import Derived.Deep.RegionWith
namespace Go.Proofs.Qxb6604322a.Ring
open Go.ChangeShapes Go.WideShapes Go.ChangeAt Go.RowKit Mem
set_option linter.unusedVariables false
set_option linter.unusedSimpArgs false

theorem Try.info43 : (Try.prog.info? 43).map (fun i => (i.zero, i.size, i.bytes)) = some (some (.int .u32 0), 1, 4) := by kernel_rfl

/-- The seven lists of a diff, in block D. -/
def Fields (D : Nat) (w : World) (v0 v1 v2 v3 v4 v5 v6 : Value) : Prop := w.heap[D]? = some (.cells #[v0, v1, v2, v3, v4, v5, v6] 71 (0, 0))

section
variable {D : Nat} {w w' : World} {v0 v1 v2 v3 v4 v5 v6 v : Value}
theorem Fields.cells (h : Fields D w v0 v1 v2 v3 v4 v5 v6) : w.cell? ⟨D, 0, none⟩ = some v0 ∧ w.cell? ⟨D, 1, none⟩ = some v1 ∧ w.cell? ⟨D, 2, none⟩ = some v2 ∧ w.cell? ⟨D, 3, none⟩ = some v3 ∧ w.cell? ⟨D, 4, none⟩ = some v4 ∧ w.cell? ⟨D, 5, none⟩ = some v5 ∧ w.cell? ⟨D, 6, none⟩ = some v6 := by
  refine ⟨?_, ?_, ?_, ?_, ?_, ?_, ?_⟩ <;> rw [cell_of_row w D _ _ 71 (0, 0) h] <;> rfl
theorem Fields.frozen (h : Fields D w v0 v1 v2 v3 v4 v5 v6) (j : Nat) : w.frozen? ⟨D, j, none⟩ = false := by
  unfold Fields at h
  simp [World.frozen?, h]
theorem Fields.lt (h : Fields D w v0 v1 v2 v3 v4 v5 v6) : D < w.heap.size := (Array.getElem?_eq_some_iff.1 h).1
theorem Fields.kept {row : Option Nat} (h : Fields D w v0 v1 v2 v3 v4 v5 v6) (hg : w.grownBy w' row) (hne : some D ≠ row) : Fields D w' v0 v1 v2 v3 v4 v5 v6 :=
  (hg.block D h.lt hne).trans h
theorem Fields.set0 (h : Fields D w v0 v1 v2 v3 v4 v5 v6) : Fields D (w.setCell ⟨D, 0, none⟩ v) v v1 v2 v3 v4 v5 v6 := by
  unfold Fields at h ⊢; simp [World.setCell, Array.getElem?_modify, h]
theorem Fields.set1 (h : Fields D w v0 v1 v2 v3 v4 v5 v6) : Fields D (w.setCell ⟨D, 1, none⟩ v) v0 v v2 v3 v4 v5 v6 := by
  unfold Fields at h ⊢; simp [World.setCell, Array.getElem?_modify, h]
theorem Fields.set2 (h : Fields D w v0 v1 v2 v3 v4 v5 v6) : Fields D (w.setCell ⟨D, 2, none⟩ v) v0 v1 v v3 v4 v5 v6 := by
  unfold Fields at h ⊢; simp [World.setCell, Array.getElem?_modify, h]
theorem Fields.set3 (h : Fields D w v0 v1 v2 v3 v4 v5 v6) : Fields D (w.setCell ⟨D, 3, none⟩ v) v0 v1 v2 v v4 v5 v6 := by
  unfold Fields at h ⊢; simp [World.setCell, Array.getElem?_modify, h]
theorem Fields.set6 (h : Fields D w v0 v1 v2 v3 v4 v5 v6) : Fields D (w.setCell ⟨D, 6, none⟩ v) v0 v1 v2 v3 v4 v5 v := by
  unfold Fields at h ⊢; simp [World.setCell, Array.getElem?_modify, h]
end

theorem grown_trans {a b c : World} {r : Option Nat} (h : a.grownBy b r) (k : b.grownBy c r) : a.grownBy c r :=
  ⟨k.os.trans h.os, k.tape.trans h.tape, k.output.trans h.output, Nat.le_trans h.size k.size, fun i hi hr => (k.block i (Nat.lt_of_lt_of_le hi h.size) hr).trans (h.block i hi hr)⟩
theorem grown_wide {a b : World} {r : Option Nat} (h : a.grownBy b none) : a.grownBy b r := ⟨h.os, h.tape, h.output, h.size, fun i hi _ => h.block i hi (by simp)⟩
theorem grown_refl (a : World) (r : Option Nat) : a.grownBy a r := ⟨rfl, rfl, rfl, Nat.le_refl _, fun _ _ _ => rfl⟩
theorem grown_set (a : World) (D j : Nat) (v : Value) : a.grownBy (a.setCell ⟨D, j, none⟩ v) (some D) :=
  ⟨rfl, rfl, rfl, by simp [World.setCell], fun i hi hr => Below.heap_setCell a ⟨D, j, none⟩ v i (fun e => hr (by rw [e]))⟩

theorem rd_grown {k : IntKind} {D : Nat} {w w' : World} {v : Value} {zs : List Int} (h : RdS (· ≠ D) k w v zs) (hg : w.grownBy w' (some D)) : RdS (· ≠ D) k w' v zs :=
  h.kept (fun b hb hlt => hg.block b hlt (fun e => hb (by simpa using e))) hg.size

theorem own_up {k : IntKind} {e : TypeId} {B B' : Nat} {w : World} {v : Value} {zs : List Int} (h : Own k e B w v zs none) (hB : B ≤ B') : Own k e B' w v zs none := by
  rcases h with ⟨_, hv | ⟨x, hv, hx, hc⟩⟩ | ⟨g, hg, _⟩
  · exact .inl ⟨rfl, .inl hv⟩
  · exact .inl ⟨rfl, .inr ⟨x, hv, fun h => by have := hx h; omega, hc⟩⟩
  · cases hg

theorem own_rd {k : IntKind} {e : TypeId} {D : Nat} {w : World} {v : Value} {zs : List Int} (h : Own k e D w v zs none) (hD : D ≤ w.heap.size) : RdS (· ≠ D) k w v zs :=
  (h.rd hD).weaken (fun b _ hb => by rcases hb with hb | hb; omega; cases hb)

theorem own_g {k : IntKind} {e : TypeId} {D : Nat} {w w' : World} {v : Value} {zs : List Int} (h : Own k e D w v zs none) (hg : w.grownBy w' (some D)) (hD : D ≤ w.heap.size) : Own k e D w' v zs none :=
  h.kept hg hD (fun g e => by cases e; exact ⟨Nat.le_refl _, by simp⟩)

theorem rd_low {D : Nat} {k : IntKind} {w w' : World} {v : Value} {zs : List Int} (h : RdS (· < D) k w v zs) (hg : w.grownBy w' (some D)) : RdS (· < D) k w' v zs :=
  h.kept (fun b hb hlt => hg.block b hlt (fun e => by cases e; omega)) hg.size

/-- A slice that an append has just made. -/
theorem new_rd {k : IntKind} {e : TypeId} {B D g : Nat} {w : World} {v : Value} {zs : List Int} (h : Own k e B w v zs (some g)) (hB : B ≤ D) (hBw : B ≤ w.heap.size) (hg : D < g) : RdS (· ≠ D) k w v zs :=
  (h.rd hBw).weaken (fun b _ hb => by rcases hb with hb | hb; omega; cases hb; omega)

theorem hide2 {p q : Prop} (h : p) (k : q) : Hid (p ∧ q) := ⟨h, k⟩

/-- The taker: the first of the ids, or -1. -/
def taker : List Int → Int
  | [] => -1
  | x :: _ => x

/-- Does the position change hands? -/
def chg (bs cs : List Int) (kept : Int) : Bool := decide (taker cs ≠ kept ∨ taker cs < 0 ∧ 0 ≤ taker bs)
/-- What the takers' lists gain. -/
def pgone (A : Int) (bs cs : List Int) : List Int := if taker bs ≠ taker cs ∧ 0 ≤ taker bs then [ent A (taker bs)] else []

/-- What position leaves. -/
def PosPost (D : Nat) (w : World) (v4 v5 : Value) (A pos kept : Int) (bs cs L0 L1 L2 L3 L6 : List Int) (w' : World) : Prop :=
  ∃ v0 v1 v2 v3 v6, Fields D w' v0 v1 v2 v3 v4 v5 v6 ∧ w.grownBy w' (some D) ∧ RdS (· ≠ D) .u64 w' v0 (L0 ++ pgone A bs cs) ∧ RdS (· ≠ D) .u64 w' v1 (L1 ++ pgone A cs bs) ∧
    RdS (· ≠ D) .u64 w' v2 (L2 ++ (less bs.tail cs.tail).map (ent A)) ∧ RdS (· ≠ D) .u64 w' v3 (L3 ++ (less cs.tail bs.tail).map (ent A)) ∧ RdS (· ≠ D) .u32 w' v6 (L6 ++ if chg bs cs kept then [pos] else [])

/-- The head of a slice of ints. -/
theorem rd_head {D n : Nat} {w : World} {a : Option Addr} {c : Nat} {bs : List Int} (h : RdS (· < D) .i64 w (.slice a n c) bs) (h0 : 0 < n) :
    ∃ b off, a = some ⟨b, off, none⟩ ∧ b < D ∧ w.cell? ⟨b, off, none⟩ = some (.int .i64 (taker bs)) := by
  obtain ⟨a', c', hv, hc, hp⟩ := h
  cases hv
  obtain ⟨b, off, ha, hS, hlt, hcell⟩ := hp h0
  refine ⟨b, off, ha, hS, ?_⟩
  have := hcell 0 h0
  cases bs with
  | nil => simp at h0
  | cons x xs => simpa [taker] using this

theorem taker_nil {bs : List Int} {n : Nat} (hn : n = bs.length) (h : ¬ 0 < n) : taker bs = -1 := by
  cases bs with
  | nil => rfl
  | cons x xs => simp at hn; omega

/-- What 'v[1:]' is, of a slice that holds something. -/
theorem rd_tail {D n : Nat} {w : World} {a : Option Addr} {c : Nat} {bs : List Int} (h : RdS (· < D) .i64 w (.slice a n c) bs) (h0 : 0 < n) :
    ∃ V, (∀ W, (Instr.slice 44 (.slice a n c) (some (.int .i64 1)) none none).run Try.prog W = .ok V W) ∧ RdS (· < D) .i64 w V bs.tail := by
  cases bs with
  | nil =>
    obtain ⟨a', c', hv, _⟩ := h
    cases hv; simp at h0
  | cons x xs =>
    obtain ⟨b, off, n', c', V, hv, hn, hB, hlt, hcell, hrun, hR⟩ := rd_cons h
    cases hv
    exact ⟨V, hrun, hR⟩
theorem tail_nil {bs : List Int} {n : Nat} (hn : n = bs.length) (h : ¬ 0 < n) : bs.tail = [] := by
  cases bs with
  | nil => rfl
  | cons x xs => simp at hn; omega
theorem rd_none (S : Nat → Prop) (k : IntKind) (w : World) : RdS S k w (.slice none 0 0) [] := ⟨none, 0, rfl, Nat.le_refl _, fun h => by simp at h⟩
theorem nn_tail {bs : List Int} (h : Nn bs) : Nn bs.tail := fun x hx => h x (List.mem_of_mem_tail hx)

/-- Both takers' bounds. -/
theorem taker_bd {bs : List Int} (h : Nn bs) : -1 ≤ taker bs ∧ taker bs ≤ 9223372036854775807 := by
  cases bs with
  | nil => simp [taker]
  | cons x xs => have := h x (by simp); simp only [taker]; omega

/-- What appendDiff hands back reads as it should, outside D. -/
theorem diff_rd {D : Nat} {k : IntKind} {e : TypeId} {W w7 : World} {v v0 : Value} {L M : List Int} {r : Option Nat} (h : Own k e W.heap.size w7 v (L ++ M) r) (hD : D < W.heap.size) (hb : Below W.heap.size W w7)
    (he : r = none → v = v0) (h0 : Own k e D W v0 L none) : RdS (· ≠ D) k w7 v (L ++ M) := by
  have hr := h.rd hb.size
  cases r with
  | none =>
    have ev := he rfl
    subst ev
    have h1 : RdS (· ≠ D) k w7 v L := (own_rd h0 (by omega)).kept (fun b _ hlt => hb.block b hlt) hb.size
    obtain ⟨a, c, hv, _⟩ := hr
    obtain ⟨a', c', hv', _⟩ := id h1
    rw [hv] at hv'
    have hl : (L ++ M).length = L.length := by injection hv'
    have hM : M = [] := by
      apply List.eq_nil_of_length_eq_zero
      simp only [List.length_append] at hl; omega
    subst hM
    simpa using h1
  | some g =>
    have := (h.low g rfl).1
    exact h.rd_some.weaken (fun b _ hb' => by omega)

/-- What position has left. -/
theorem pos_close {D : Nat} {w wc W w7 : World} {v0 v1 v2 v3 v4 v5 v6 x2 x3 : Value} {A pos kept : Int} {bs cs L0 L1 L2 L3 L6 : List Int} {r1 r2 : Option Nat}
    (hD : D < wc.heap.size) (hG : w.grownBy wc (some D)) (hW : wc.grownBy W none) (hF : Fields D wc v0 v1 v2 v3 v4 v5 v6)
    (R0 : RdS (· ≠ D) .u64 wc v0 (L0 ++ pgone A bs cs)) (R1 : RdS (· ≠ D) .u64 wc v1 (L1 ++ pgone A cs bs)) (R6 : RdS (· ≠ D) .u32 wc v6 (L6 ++ if chg bs cs kept then [pos] else []))
    (O2 : Own .u64 26 D wc v2 L2 none) (O3 : Own .u64 26 D wc v3 L3 none)
    (h1 : Own .u64 26 W.heap.size w7 x2 (L2 ++ (less bs.tail cs.tail).map (ent A)) r1) (h2 : Own .u64 26 W.heap.size w7 x3 (L3 ++ (less cs.tail bs.tail).map (ent A)) r2)
    (h3 : Below W.heap.size W w7) (h4 : r1 = none → x2 = v2) (h5 : r2 = none → x3 = v3) :
    PosPost D w v4 v5 A pos kept bs cs L0 L1 L2 L3 L6 ((w7.setCell ⟨D, 2, none⟩ x2).setCell ⟨D, 3, none⟩ x3) := by
  have hWs := hW.size
  have hDW : D < W.heap.size := by omega
  have hg7 : wc.grownBy w7 (some D) := grown_wide (grown_trans hW ⟨h3.os, h3.tape, h3.output, h3.size, fun k hk _ => h3.block k hk⟩)
  have hset : w7.grownBy ((w7.setCell ⟨D, 2, none⟩ x2).setCell ⟨D, 3, none⟩ x3) (some D) := grown_trans (grown_set _ _ _ _) (grown_set _ _ _ _)
  have hall := grown_trans hg7 hset
  have F7 : Fields D w7 v0 v1 v2 v3 v4 v5 v6 := (h3.block D hDW).trans (hF.kept hW (by simp))
  refine ⟨v0, v1, x2, x3, v6, F7.set2.set3, grown_trans hG hall, rd_grown R0 hall, rd_grown R1 hall, ?_, ?_, rd_grown R6 hall⟩
  · exact rd_grown (diff_rd h1 hDW h3 h4 (O2.kept hW (by omega) (fun g e => by cases e))) hset
  · exact rd_grown (diff_rd h2 hDW h3 h5 (O3.kept hW (by omega) (fun g e => by cases e))) hset

set_option maxRecDepth 100000 in
set_option maxHeartbeats 4000000 in
theorem position_any (D : Nat) (v0 v1 v2 v3 v4 v5 v6 before after : Value) (pos kept : Int) (bs cs L0 L1 L2 L3 L6 : List Int) (w : World)
    (hp0 : 0 ≤ pos) (hp1 : pos ≤ 4294967295)
    (hF : Fields D w v0 v1 v2 v3 v4 v5 v6) (hb : RdS (· < D) .i64 w before bs) (ha : RdS (· < D) .i64 w after cs) (nb : Nn bs) (nc : Nn cs) (ab : Asc bs.tail) (ac : Asc cs.tail)
    (o0 : Own .u64 26 D w v0 L0 none) (o1 : Own .u64 26 D w v1 L1 none) (o2 : Own .u64 26 D w v2 L2 none) (o3 : Own .u64 26 D w v3 L3 none) (o6 : Own .u32 43 D w v6 L6 none)
    (z0 : L0.length ≤ 1000000) (z1 : L1.length ≤ 1000000) (z2 : L2.length + bs.length ≤ 1000000) (z3 : L3.length + cs.length ≤ 1000000) (z6 : L6.length ≤ 1000000) :
    Calls Try.prog 37 #[.pointer (some ⟨D, 0, none⟩), .int .u32 pos, before, after, .int .i64 kept] w fun e w' => e = .returned (.tuple #[]) ∧ PosPost D w v4 v5 (pos * 4294967296) pos kept bs cs L0 L1 L2 L3 L6 w' := by
  obtain ⟨tb, HTB⟩ : ∃ t, Hid (taker bs = t) := ⟨_, rfl⟩
  obtain ⟨ta, HTA⟩ : ∃ t, Hid (taker cs = t) := ⟨_, rfl⟩
  have bdb := taker_bd nb
  have bdc := taker_bd nc
  rw [HTB.out] at bdb
  rw [HTA.out] at bdc
  obtain ⟨n1, HN1⟩ : ∃ n, Hid (n = bs.length) := ⟨_, rfl⟩
  obtain ⟨n2, HN2⟩ : ∃ n, Hid (n = cs.length) := ⟨_, rfl⟩
  obtain ⟨a1, d1, rfl, hd1, _⟩ := id hb
  obtain ⟨a2, d2, rfl, hd2, _⟩ := id ha
  rw [← HN1.out] at hb hd1 z2 ⊢
  rw [← HN2.out] at ha hd2 z3 ⊢
  have HB : Hid (RdS (· < D) .i64 w (.slice a1 n1 d1) bs) := hb
  have HA : Hid (RdS (· < D) .i64 w (.slice a2 n2 d2) cs) := ha
  have hDl := hF.lt
  have HF : Hid (Fields D w v0 v1 v2 v3 v4 v5 v6) := hF
  have HO : Hid (Own .u64 26 D w v0 L0 none ∧ Own .u64 26 D w v1 L1 none ∧ Own .u64 26 D w v2 L2 none ∧ Own .u64 26 D w v3 L3 none ∧ Own .u32 43 D w v6 L6 none) := ⟨o0, o1, o2, o3, o6⟩
  have HP : Hid (Nn bs ∧ Nn cs ∧ Asc bs.tail ∧ Asc cs.tail) := ⟨nb, nc, ab, ac⟩
  clear hF hb ha nb nc ab ac o0 o1 o2 o3 o6
  go_enter Try.func37, Try.ntmps37
  go_upto_if 20 with fail
  go_cut [11] (fun t wc => t = .int .i64 tb ∧ wc = w)
  case first =>
    by_cases h0 : 0 < n1
    · obtain ⟨b, off, rfl, hbD, hc⟩ := rd_head HB.out h0
      rw [HTB.out] at hc
      have h0' : (0 : Int) < (n1 : Int) := by omega
      go_wp2
      go_meet
      case rel => exact ⟨rfl, rfl⟩
    · have ht := HTB.out
      rw [taker_nil HN1.out h0] at ht
      subst ht
      go_wp2
      go_meet
      case rel => exact ⟨rfl, rfl⟩
  case rest =>
    obtain ⟨hc1, hc2⟩ := hcut
    subst hc1
    have hc3 := hc2.symm
    subst hc3
    clear hc2
    go_upto_if 26 with fail
    go_cut [12] (fun t wc => t = .int .i64 ta ∧ wc = w)
    case first =>
      by_cases h0 : 0 < n2
      · obtain ⟨b, off, rfl, hbD, hc⟩ := rd_head HA.out h0
        rw [HTA.out] at hc
        have h0' : (0 : Int) < (n2 : Int) := by omega
        go_wp2
        go_meet
        case rel => exact ⟨rfl, rfl⟩
      · have ht := HTA.out
        rw [taker_nil HN2.out h0] at ht
        subst ht
        go_wp2
        go_meet
        case rel => exact ⟨rfl, rfl⟩
    case rest =>
      obtain ⟨hc1, hc2⟩ := hcut
      subst hc1
      have hc3 := hc2.symm
      subst hc3
      clear hc2
      obtain ⟨ch, HCH⟩ : ∃ ch, Hid (chg bs cs kept = ch) := ⟨_, rfl⟩
      have HCD : Hid (decide (ta ≠ kept ∨ ta < 0 ∧ 0 ≤ tb) = ch) := by
        have := HCH.out
        unfold chg at this
        rw [HTB.out, HTA.out] at this
        exact this
      go_upto_region 6 with fail
      go_cut [40] (fun t wc => t = .bool ch ∧ wc = w)
      case first =>
        by_cases k1 : ta = kept
        · have k1' : (ta != kept) = false := by simpa using k1
          by_cases k2 : ta < 0
          · by_cases k3 : 0 ≤ tb
            · have e : ch = true := by rw [← HCD.out]; simp; omega
              subst e
              clear k1
              go_wp2
              go_meet
              case rel => exact ⟨rfl, rfl⟩
            · have e : ch = false := by rw [← HCD.out]; simp; omega
              subst e
              clear k1
              go_wp2
              go_meet
              case rel => exact ⟨rfl, rfl⟩
          · have e : ch = false := by rw [← HCD.out]; simp; omega
            subst e
            have k2' : decide (ta < 0) = false := by simpa using k2
            clear k1
            go_wp2
            go_meet
            case rel => exact ⟨rfl, rfl⟩
        · have k1' : (ta != kept) = true := by simpa using k1
          have e : ch = true := by rw [← HCD.out]; simp; omega
          subst e
          clear k1
          go_wp2
          go_meet
          case rel => exact ⟨rfl, rfl⟩
      case rest =>
        obtain ⟨hc1, hc2⟩ := hcut
        subst hc1
        have hc3 := hc2.symm
        subst hc3
        clear hc2
        go_upto_if 40 with fail
        go_cut [] (fun wc => ∃ v6', Fields D wc v0 v1 v2 v3 v4 v5 v6' ∧ w.grownBy wc (some D) ∧ RdS (· ≠ D) .u32 wc v6' (L6 ++ if ch then [pos] else []))
        case first =>
          cases ch
          · go_wp2
            go_meet
            case rel => exact ⟨v6, HF.out, grown_refl _ _, by simpa using own_rd HO.out.2.2.2.2 (by omega)⟩
          · obtain ⟨q0, q1, q2, q3, q4, q5, q6⟩ := HF.out.cells
            have qf := HF.out.frozen 6
            go_wp2_with (at_builtin; refine wpList_append_mine (by rfl) _ _ _ (by rfl) Try.underlying42 Try.info43 (by decide) D _ v6 L6 none (by rfl) (by exact HO.out.2.2.2.2.alloc (by omega) _) (by simp; omega) (by omega) _ _ pos (by rfl) (by exact one_cell _ _ _) ?_; intro g cap w2 hown2 hgrow2 hrow2 hlt2; have HG2 : Hid (w.grownBy w2 none) := grown_trans (grown_none_alloc _ _) hgrow2; have HF2 : Hid (Fields D w2 v0 v1 v2 v3 v4 v5 v6) := HF.out.kept HG2.out (by simp); have c6 := HF2.out.cells.2.2.2.2.2.2; have f6 := HF2.out.frozen 6; have HO2 := hide2 hown2 hrow2; clear hown2 hgrow2 hrow2)
            go_meet
            case rel =>
              have hs2 := HG2.out.size
              exact ⟨_, HF2.out.set6, grown_trans (grown_wide HG2.out) (grown_set _ _ _ _), rd_grown (by simpa using new_rd HO2.out.1 (Nat.le_refl _) (by omega) (by have h := HO2.out.2; simp at h; omega)) (grown_set _ _ _ _)⟩
        case rest =>
          obtain ⟨v6', hFc, hGc, hRc⟩ := hcut
          obtain ⟨w1, rfl⟩ : ∃ w1 : World, w1 = wc := ⟨_, rfl⟩
          have HFC : Hid (Fields D w1 v0 v1 v2 v3 v4 v5 v6') := hFc
          have HGC : Hid (w.grownBy w1 (some D)) := hGc
          have HRC := hide2 hRc True.intro
          have hs1 := hGc.size
          have hD1 : D < w1.heap.size := by omega
          have HO0 : Hid (Own .u64 26 D w1 v0 L0 none) := own_g HO.out.1 hGc (by omega)
          have HO1 : Hid (Own .u64 26 D w1 v1 L1 none) := own_g HO.out.2.1 hGc (by omega)
          clear hFc hGc hRc
          go_upto_if 53 with fail
          go_cut [] (fun wc => ∃ v0' v1', Fields D wc v0' v1' v2 v3 v4 v5 v6' ∧ w1.grownBy wc (some D) ∧ RdS (· ≠ D) .u64 wc v0' (L0 ++ pgone (pos * 4294967296) bs cs) ∧ RdS (· ≠ D) .u64 wc v1' (L1 ++ pgone (pos * 4294967296) cs bs))
          case first =>
            by_cases ht : tb = ta
            · have ht' : (tb != ta) = false := by simpa using ht
              have p1 : pgone (pos * 4294967296) bs cs = [] := by unfold pgone; rw [HTB.out, HTA.out, if_neg (by omega)]
              have p2 : pgone (pos * 4294967296) cs bs = [] := by unfold pgone; rw [HTB.out, HTA.out, if_neg (by omega)]
              have HPG := hide2 p1 p2
              clear ht p1 p2
              go_wp2
              go_meet
              case rel =>
                rw [HPG.out.1, HPG.out.2, List.append_nil, List.append_nil]
                exact ⟨v0, v1, HFC.out, grown_refl _ _, own_rd HO0.out (by omega), own_rd HO1.out (by omega)⟩
            · have ht' : (tb != ta) = true := by simpa using ht
              have p1 : pgone (pos * 4294967296) bs cs = if 0 ≤ tb then [ent (pos * 4294967296) tb] else [] := by
                unfold pgone; rw [HTB.out, HTA.out]; by_cases h : 0 ≤ tb <;> simp [ht, h]
              have p2 : pgone (pos * 4294967296) cs bs = if 0 ≤ ta then [ent (pos * 4294967296) ta] else [] := by
                unfold pgone; rw [HTB.out, HTA.out]; by_cases h : 0 ≤ ta <;> simp [Ne.symm ht, h]
              have HPG := hide2 p1 p2
              clear ht p1 p2
              go_upto_if 55 with fail
              go_cut [] (fun wc => ∃ v0', Fields D wc v0' v1 v2 v3 v4 v5 v6' ∧ w1.grownBy wc (some D) ∧ RdS (· ≠ D) .u64 wc v0' (L0 ++ pgone (pos * 4294967296) bs cs))
              case first =>
                by_cases h0 : 0 ≤ tb
                · have hwx := wrap_id tb h0 bdb.2
                  have cX := HFC.out.cells.1
                  have fX := HFC.out.frozen 0
                  go_wp2_with (at_builtin; refine wpList_append_mine (by rfl) _ _ _ (by rfl) Try.underlying29 Try.info26 (by decide) D _ v0 L0 none (by rfl) (by exact HO0.out.alloc (by omega) _) (by simp; omega) (by omega) _ _ (ent (pos * 4294967296) tb) (by rfl) (by exact one_cell _ _ _) ?_; intro g cap w2 hown2 hgrow2 hrow2 hlt2; have HG2 : Hid (w1.grownBy w2 none) := grown_trans (grown_none_alloc _ _) hgrow2; have HF2 : Hid (Fields D w2 v0 v1 v2 v3 v4 v5 v6') := HFC.out.kept HG2.out (by simp); have cX := HF2.out.cells.1; have fX := HF2.out.frozen 0; have HO2 := hide2 hown2 hrow2; clear hown2 hgrow2 hrow2)
                  go_meet
                  case rel =>
                    have hs2 := HG2.out.size
                    rw [HPG.out.1, if_pos h0]
                    exact ⟨_, HF2.out.set0, grown_trans (grown_wide HG2.out) (grown_set _ _ _ _), rd_grown (new_rd HO2.out.1 (Nat.le_refl _) (by omega) (by have h := HO2.out.2; simp at h; omega)) (grown_set _ _ _ _)⟩
                · go_wp2
                  go_meet
                  case rel =>
                    rw [HPG.out.1, if_neg (by omega), List.append_nil]
                    exact ⟨v0, HFC.out, grown_refl _ _, own_rd HO0.out (by omega)⟩
              case rest =>
                obtain ⟨v0', hFc, hGc, hRc⟩ := hcut
                obtain ⟨w3, rfl⟩ : ∃ w3 : World, w3 = wc := ⟨_, rfl⟩
                have HO3 : Hid (Own .u64 26 D w3 v1 L1 none) := own_g HO1.out hGc (by omega)
                have HFD := HFC
                clear HFC
                have HFC : Hid (Fields D w3 v0' v1 v2 v3 v4 v5 v6') := hFc
                have HGD : Hid (w1.grownBy w3 (some D)) := hGc
                have HRD := hide2 hRc True.intro
                have hs3 := hGc.size
                have hD3 : D < w3.heap.size := by omega
                clear hFc hGc hRc
                by_cases h0 : 0 ≤ ta
                · have hwx := wrap_id ta h0 bdc.2
                  have cX := HFC.out.cells.2.1
                  have fX := HFC.out.frozen 1
                  go_wp2_with (at_builtin; refine wpList_append_mine (by rfl) _ _ _ (by rfl) Try.underlying29 Try.info26 (by decide) D _ v1 L1 none (by rfl) (by exact HO3.out.alloc (by omega) _) (by simp; omega) (by omega) _ _ (ent (pos * 4294967296) ta) (by rfl) (by exact one_cell _ _ _) ?_; intro g cap w2 hown2 hgrow2 hrow2 hlt2; have HG2 : Hid (w3.grownBy w2 none) := grown_trans (grown_none_alloc _ _) hgrow2; have HF2 : Hid (Fields D w2 v0' v1 v2 v3 v4 v5 v6') := HFC.out.kept HG2.out (by simp); have cX := HF2.out.cells.2.1; have fX := HF2.out.frozen 1; have HO2 := hide2 hown2 hrow2; clear hown2 hgrow2 hrow2)
                  go_meet
                  case rel =>
                    have hs2 := HG2.out.size
                    have hgt := grown_trans (grown_wide (r := some D) HG2.out) (grown_set w2 D 1 (.slice (some ⟨g, 0, none⟩) (L1.length + 1) cap))
                    rw [HPG.out.2, if_pos h0]
                    exact ⟨_, _, HF2.out.set1, grown_trans HGD.out hgt, rd_grown HRD.out.1 hgt, rd_grown (new_rd HO2.out.1 (Nat.le_refl _) (by omega) (by have h := HO2.out.2; simp at h; omega)) (grown_set _ _ _ _)⟩
                · go_wp2
                  go_meet
                  case rel =>
                    rw [HPG.out.2, if_neg (by omega), List.append_nil]
                    exact ⟨v0', v1, HFC.out, HGD.out, HRD.out.1, own_rd HO3.out (by omega)⟩
          case rest =>
            obtain ⟨v0', v1', hFc, hGc, hR0, hR1⟩ := hcut
            obtain ⟨w4, rfl⟩ : ∃ w4 : World, w4 = wc := ⟨_, rfl⟩
            have HGE : Hid (w.grownBy w4 (some D)) := grown_trans HGC.out hGc
            have HFE : Hid (Fields D w4 v0' v1' v2 v3 v4 v5 v6') := hFc
            have HRE := hide2 (hide2 hR0 hR1) (rd_grown HRC.out.1 hGc)
            have hs4 := HGE.out.size
            have hD4 : D < w4.heap.size := by omega
            have HB4 : Hid (RdS (· < D) .i64 w4 (.slice a1 n1 d1) bs) := rd_low HB.out HGE.out
            have HA4 : Hid (RdS (· < D) .i64 w4 (.slice a2 n2 d2) cs) := rd_low HA.out HGE.out
            have HO2 : Hid (Own .u64 26 D w4 v2 L2 none) := own_g HO.out.2.2.1 HGE.out (by omega)
            have HO3 : Hid (Own .u64 26 D w4 v3 L3 none) := own_g HO.out.2.2.2.1 HGE.out (by omega)
            clear hFc hGc hR0 hR1 HFC HGC HRC HO0 HO1 hs1 hD1
            go_upto_if 86 with fail
            go_cut [13] (fun t wc => RdS (· < D) .i64 w4 t bs.tail ∧ wc = w4)
            case first =>
              by_cases h0 : 0 < n1
              · obtain ⟨V, hV, hRV⟩ := rd_tail HB4.out h0
                have HV := hide2 hRV True.intro
                clear hRV
                go_wp2
                go_meet
                case rel => exact ⟨HV.out.1, rfl⟩
              · have htl := tail_nil HN1.out h0
                have HV := hide2 htl True.intro
                clear htl
                go_wp2
                go_meet
                case rel => rw [HV.out.1]; exact ⟨rd_none _ _ _, rfl⟩
            case rest =>
              obtain ⟨hc1, hc2⟩ := hcut
              have HW := hide2 hc1 True.intro
              subst hc2
              clear hc1
              go_upto_if 91 with fail
              go_cut [14] (fun t wc' => RdS (· < D) .i64 wc t cs.tail ∧ wc' = wc)
              case first =>
                by_cases h0 : 0 < n2
                · obtain ⟨V, hV, hRV⟩ := rd_tail HA4.out h0
                  have HV := hide2 hRV True.intro
                  clear hRV
                  go_wp2
                  go_meet
                  case rel => exact ⟨HV.out.1, rfl⟩
                · have htl := tail_nil HN2.out h0
                  have HV := hide2 htl True.intro
                  clear htl
                  go_wp2
                  go_meet
                  case rel => rw [HV.out.1]; exact ⟨rd_none _ _ _, rfl⟩
              case rest =>
                obtain ⟨hc1, hc2⟩ := hcut
                have HI := hide2 hc1 True.intro
                subst hc2
                clear hc1
                have q2 := HFE.out.cells.2.2.1
                have q3 := HFE.out.cells.2.2.2.1
                have hA0 : 0 ≤ pos * 4294967296 := by omega
                have hA1 : pos * 4294967296 ≤ 18446744073709551615 := by omega
                have hl1 : bs.tail.length ≤ n1 := by rw [HN1.out]; simp
                have hl2 : cs.tail.length ≤ n2 := by rw [HN2.out]; simp
                have DD : ∀ W : World, wc.grownBy W none → Calls Try.prog 40 #[v2, v3, .int .u64 (pos * 4294967296), u13, u14] W fun e w' => ∃ p1 m1 k1 p2 m2 k2, e = .returned (.tuple #[.slice p1 m1 k1, .slice p2 m2 k2]) ∧
                    Hid (∃ r1 r2, Own .u64 26 W.heap.size w' (.slice p1 m1 k1) (L2 ++ (less bs.tail cs.tail).map (ent (pos * 4294967296))) r1 ∧ Own .u64 26 W.heap.size w' (.slice p2 m2 k2) (L3 ++ (less cs.tail bs.tail).map (ent (pos * 4294967296))) r2 ∧ Below W.heap.size W w' ∧ (r1 = none → .slice p1 m1 k1 = v2) ∧ (r2 = none → .slice p2 m2 k2 = v3)) ∧
                    Hid (Fields D w' v0' v1' v2 v3 v4 v5 v6') ∧ w'.cell? ⟨D, 2, none⟩ = some v2 ∧ w'.cell? ⟨D, 3, none⟩ = some v3 ∧ w'.frozen? ⟨D, 2, none⟩ = false ∧ w'.frozen? ⟨D, 3, none⟩ = false := by
                  intro W hW
                  have hWs := hW.size
                  refine (diff_any v2 v3 u13 u14 (pos * 4294967296) bs.tail cs.tail L2 L3 W hA0 hA1 ?_ ?_ HP.out.2.2.1 HP.out.2.2.2 (nn_tail HP.out.1) (nn_tail HP.out.2.1) ?_ ?_ (by omega) (by omega)).mono ?_
                  · exact (HW.out.1.kept (fun b _ hlt => hW.block b hlt (by simp)) hWs).weaken (fun b _ hb => by omega)
                  · exact (HI.out.1.kept (fun b _ hlt => hW.block b hlt (by simp)) hWs).weaken (fun b _ hb => by omega)
                  · exact own_up (HO2.out.kept hW (by omega) (fun g e => by cases e)) (by omega)
                  · exact own_up (HO3.out.kept hW (by omega) (fun g e => by cases e)) (by omega)
                  · rintro e w' ⟨x1, x2, r1, r2, rfl, h1, h2, h3, h4, h5⟩
                    have hf : Fields D w' v0' v1' v2 v3 v4 v5 v6' := (h3.block D (by omega)).trans (HFE.out.kept hW (by simp))
                    obtain ⟨p1, k1, e1, _⟩ := h1.rd h3.size
                    obtain ⟨p2, k2, e2, _⟩ := h2.rd h3.size
                    subst e1 e2
                    exact ⟨p1, _, k1, p2, _, k2, rfl, ⟨r1, r2, h1, h2, h3, h4, h5⟩, hf, hf.cells.2.2.1, hf.cells.2.2.2.1, hf.frozen 2, hf.frozen 3⟩
                have HDD := hide2 DD True.intro
                clear DD
                go_wp2_with fail
                go_region_with (go_at_call 40; refine (HDD.out.1 _ (by exact ⟨rfl, rfl, rfl, Nat.le_refl _, fun _ _ _ => rfl⟩)).mono ?_; rintro e w7 ⟨p1, m1, k1, p2, m2, k2, rfl, HX7, HF7, y2, y3, z2, z3⟩)
                all_goals
                  obtain ⟨r1, r2, j1, j2, j3, j4, j5⟩ := HX7.out
                  go_end0
                  refine ⟨rfl, ?_⟩
                  exact pos_close (W := wc.drew) hD4 HGE.out ⟨rfl, rfl, rfl, Nat.le_refl _, fun _ _ _ => rfl⟩ HFE.out HRE.out.1.out.1 HRE.out.1.out.2 (by rw [HCH.out]; exact HRE.out.2) HO2.out HO3.out j1 j2 j3 j4 j5

end Go.Proofs.Qxb6604322a.Ring
