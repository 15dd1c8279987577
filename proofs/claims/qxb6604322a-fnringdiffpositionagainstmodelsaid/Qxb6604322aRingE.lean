/-
  The shim over position (27), and zzBytes of the law (22).
-/
import Derived.Test.Qxb6604322aRingD
namespace Go.Proofs.Qxb6604322a.Ring
open Go.ChangeShapes Go.WideShapes Go.ChangeAt Go.RowKit Mem
set_option linter.unusedVariables false
set_option linter.unusedSimpArgs false

/-- Reads as zs, wherever it lies. -/
def RdT (k : IntKind) (w : World) (v : Value) (zs : List Int) : Prop := RdS (fun _ => True) k w v zs

theorem RdT.next {k : IntKind} {w w' : World} {v : Value} {zs : List Int} (h : RdT k w v zs) (hb : Below w.heap.size w w') : RdT k w' v zs :=
  RdS.kept h (fun b _ hlt => hb.block b hlt) hb.size

theorem own_next {k : IntKind} {e : TypeId} {w w' : World} {v : Value} {zs : List Int} (h : Own k e w.heap.size w v zs none) (hb : Below w.heap.size w w') : Own k e w'.heap.size w' v zs none := by
  refine own_up (h.kept (row' := none) ⟨hb.os, hb.tape, hb.output, hb.size, fun i hi _ => hb.block i hi⟩ (Nat.le_refl _) (fun g e => by cases e)) hb.size

theorem own_rdt {k : IntKind} {e : TypeId} {w : World} {v : Value} {zs : List Int} (h : Own k e w.heap.size w v zs none) : RdT k w v zs :=
  (h.rd (Nat.le_refl _)).weaken (fun _ _ _ => trivial)

theorem own_shape {k : IntKind} {e : TypeId} {B : Nat} {w : World} {v : Value} {zs : List Int} {r : Option Nat} (h : Own k e B w v zs r) (hB : B ≤ w.heap.size) : ∃ a n c, v = .slice a n c := by
  obtain ⟨a, c, hv, _⟩ := h.rd hB
  exact ⟨a, _, c, hv⟩
theorem Sl.shape {v : Value} (h : Sl v) : ∃ a n c, v = .slice a n c := by
  rcases h with h | ⟨x, n, c, h⟩
  · exact ⟨_, _, _, h⟩
  · exact ⟨_, _, _, h⟩

/-- What the shim hands back. -/
def ShimPost (w : World) (v4 v5 : Value) (A pos kept : Int) (bs cs L0 L1 L2 L3 L6 : List Int) (e : Ending) (w' : World) : Prop :=
  ∃ u0 u1 u2 u3 u6, e = .returned (.tuple #[u0, u1, u2, u3, v4, v5, u6]) ∧ RdT .u64 w' u0 (L0 ++ pgone A bs cs) ∧ RdT .u64 w' u1 (L1 ++ pgone A cs bs) ∧
    RdT .u64 w' u2 (L2 ++ (less bs.tail cs.tail).map (ent A)) ∧ RdT .u64 w' u3 (L3 ++ (less cs.tail bs.tail).map (ent A)) ∧ RdT .u32 w' u6 (L6 ++ if chg bs cs kept then [pos] else []) ∧ Below w.heap.size w w'

set_option maxRecDepth 100000 in
set_option maxHeartbeats 4000000 in
theorem shim_any (v0 v1 v2 v3 v4 v5 v6 before after : Value) (pos kept : Int) (bs cs L0 L1 L2 L3 L6 : List Int) (w : World)
    (hp0 : 0 ≤ pos) (hp1 : pos ≤ 4294967295) (hb : RdT .i64 w before bs) (ha : RdT .i64 w after cs) (nb : Nn bs) (nc : Nn cs) (ab : Asc bs.tail) (ac : Asc cs.tail)
    (o0 : Own .u64 26 w.heap.size w v0 L0 none) (o1 : Own .u64 26 w.heap.size w v1 L1 none) (o2 : Own .u64 26 w.heap.size w v2 L2 none) (o3 : Own .u64 26 w.heap.size w v3 L3 none) (o6 : Own .u32 43 w.heap.size w v6 L6 none)
    (z0 : L0.length ≤ 1000000) (z1 : L1.length ≤ 1000000) (z2 : L2.length + bs.length ≤ 1000000) (z3 : L3.length + cs.length ≤ 1000000) (z6 : L6.length ≤ 1000000)
    (s4 : Sl v4) (s5 : Sl v5) :
    Calls Try.prog 27 #[v0, v1, v2, v3, v4, v5, v6, .int .u32 pos, before, after, .int .i64 kept] w (ShimPost w v4 v5 (pos * 4294967296) pos kept bs cs L0 L1 L2 L3 L6) := by
  have HP : Hid (Calls Try.prog 37 #[.pointer (some ⟨w.heap.size, 0, none⟩), .int .u32 pos, before, after, .int .i64 kept] (w.alloc (.cells #[v0, v1, v2, v3, v4, v5, v6] 71)) fun e w' => e = .returned (.tuple #[]) ∧
      Hid (PosPost w.heap.size (w.alloc (.cells #[v0, v1, v2, v3, v4, v5, v6] 71)) v4 v5 (pos * 4294967296) pos kept bs cs L0 L1 L2 L3 L6 w')) := by
    have hg := grown_none_alloc w (.cells #[v0, v1, v2, v3, v4, v5, v6] 71)
    have hB : ∀ b, True → b < w.heap.size → (w.alloc (.cells #[v0, v1, v2, v3, v4, v5, v6] 71)).heap[b]? = w.heap[b]? := fun b _ hlt => hg.block b hlt (by simp)
    have hlow : ∀ {v : Value} {zs : List Int}, RdT .i64 w v zs → RdS (· < w.heap.size) .i64 (w.alloc (.cells #[v0, v1, v2, v3, v4, v5, v6] 71)) v zs := by
      intro v zs h
      exact RdS.kept (RdS.weaken h (T := (· < w.heap.size)) (fun b hlt _ => hlt)) (fun b _ hlt => hB b trivial hlt) hg.size
    have hoa : ∀ {k : IntKind} {e : TypeId} {v : Value} {zs : List Int}, Own k e w.heap.size w v zs none → Own k e w.heap.size (w.alloc (.cells #[v0, v1, v2, v3, v4, v5, v6] 71)) v zs none := fun h => h.alloc (Nat.le_refl _) _
    exact position_any w.heap.size v0 v1 v2 v3 v4 v5 v6 before after pos kept bs cs L0 L1 L2 L3 L6 _ hp0 hp1 (heap_alloc_new w _) (hlow hb) (hlow ha) nb nc ab ac (hoa o0) (hoa o1) (hoa o2) (hoa o3) (hoa o6) z0 z1 z2 z3 z6
  obtain ⟨x0, y0, q0, rfl⟩ := own_shape o0 (Nat.le_refl _)
  obtain ⟨x1, y1, q1, rfl⟩ := own_shape o1 (Nat.le_refl _)
  obtain ⟨x2, y2, q2, rfl⟩ := own_shape o2 (Nat.le_refl _)
  obtain ⟨x3, y3, q3, rfl⟩ := own_shape o3 (Nat.le_refl _)
  obtain ⟨x4, y4, q4, rfl⟩ := s4.shape
  obtain ⟨x5, y5, q5, rfl⟩ := s5.shape
  obtain ⟨x6, y6, q6, rfl⟩ := own_shape o6 (Nat.le_refl _)
  obtain ⟨xb, qb, rfl, _, _⟩ := hb
  obtain ⟨xa, qa, rfl, _, _⟩ := ha
  clear o0 o1 o2 o3 o6 ab ac nb nc s4 s5
  go_enter Try.func27, Try.ntmps27
  go_wp2_with fail
  refine HP.out.mono ?_
  rintro e w1 ⟨rfl, HQ⟩
  obtain ⟨u0, u1, u2, u3, u6, hF, hG, r0, r1, r2, r3, r6⟩ := HQ.out
  obtain ⟨f0, f1, f2, f3, f4, f5, f6⟩ := hF.cells
  have HR := hide2 hG (hide2 (hide2 r0 r1) (hide2 r2 (hide2 r3 r6)))
  clear hF hG r0 r1 r2 r3 r6
  go_wp2_with fail
  go_quiet (fail)
  go_wp2
  refine bodyPost_ret (v := .tuple #[u0, u1, u2, u3, .slice x4 y4 q4, .slice x5 y5 q5, u6]) (by simp [results, Try.results27, go_sem]) rfl ?_
  have hG := HR.out.1
  have hA : Below w.heap.size w w1 := by
    have h1 : Below w.heap.size w (w.alloc (.cells #[.slice x0 y0 q0, .slice x1 y1 q1, .slice x2 y2 q2, .slice x3 y3 q3, .slice x4 y4 q4, .slice x5 y5 q5, .slice x6 y6 q6] 71)) := (Below.refl _ _).alloc (Nat.le_refl _) _
    exact h1.grown hG (by simp) (fun k hk => by cases hk; exact Nat.le_refl _)
  have hT : ∀ {k : IntKind} {v : Value} {zs : List Int}, RdS (· ≠ w.heap.size) k w1 v zs → RdT k (w1.drewN nq) v zs := fun h => (RdS.weaken h (T := fun _ => True) (fun _ _ _ => trivial)).kept (fun _ _ _ => rfl) (Nat.le_refl _)
  exact ⟨u0, u1, u2, u3, u6, rfl, hT HR.out.2.out.1.out.1, hT HR.out.2.out.1.out.2, hT HR.out.2.out.2.out.1, hT HR.out.2.out.2.out.2.out.1, hT HR.out.2.out.2.out.2.out.2, below_drewN hA _⟩

set_option maxRecDepth 100000 in
set_option maxHeartbeats 4000000 in
theorem bytes22 (a0 a1 a2 a3 a4 a5 a6 a8 a9 : Option Addr) (n0 n1 n2 n3 n4 n5 n6 n8 n9 c0 c1 c2 c3 c4 c5 c6 c8 c9 : Nat) (pos kept : Int) (w : World)
    (h0 : n0 ≤ 9223372036854775807) (h1 : n1 ≤ 9223372036854775807) (h2 : n2 ≤ 9223372036854775807) (h3 : n3 ≤ 9223372036854775807) (h4 : n4 ≤ 9223372036854775807) (h5 : n5 ≤ 9223372036854775807) (h6 : n6 ≤ 9223372036854775807) (h8 : n8 ≤ 9223372036854775807) (h9 : n9 ≤ 9223372036854775807) :
    Calls Try.prog 22 #[.slice a0 n0 c0, .slice a1 n1 c1, .slice a2 n2 c2, .slice a3 n3 c3, .slice a4 n4 c4, .slice a5 n5 c5, .slice a6 n6 c6, .int .u32 pos, .slice a8 n8 c8, .slice a9 n9 c9, .int .i64 kept] w
      fun e w' => (∃ b, e = .returned (.bool b)) ∧ w' = w := by
  go_enter Try.func22, Try.ntmps22
  go_wp2
  all_goals (go_ret; exact ⟨⟨_, rfl⟩, rfl⟩)

end Go.Proofs.Qxb6604322a.Ring
