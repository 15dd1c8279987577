/-
  The law over position (7): what the way through wants.
-/
import Derived.Test.Qxb6604322aRingF
namespace Go.Proofs.Qxb6604322a.Ring
open Go.ChangeShapes Go.WideShapes Go.ChangeAt Go.RowKit Mem
set_option linter.unusedVariables false
set_option linter.unusedSimpArgs false


/-- What the walk behind the shim reads. -/
def Bun (w : World) (s0 s1 s2 s3 s4 s5 s6 s8 s9 g0 g1 g2 g3 g4 g5 g6 : Value) (L0 L1 L2 L3 L4 L5 L6 bs cs K0 K1 K2 K3 K6 : List Int) : Prop :=
  ((RdT .u64 w s0 L0 ∧ RdT .u64 w s1 L1 ∧ RdT .u64 w s2 L2 ∧ RdT .u64 w s3 L3 ∧ RdT .u64 w s4 L4 ∧ RdT .u64 w s5 L5 ∧ RdT .u32 w s6 L6) ∧ RdT .i64 w s8 bs ∧ RdT .i64 w s9 cs) ∧
  (RdT .u64 w g0 K0 ∧ RdT .u64 w g1 K1 ∧ RdT .u64 w g2 K2 ∧ RdT .u64 w g3 K3 ∧ RdT .u64 w g4 L4 ∧ RdT .u64 w g5 L5 ∧ RdT .u32 w g6 K6)

theorem Bun.next {w w' : World} {s0 s1 s2 s3 s4 s5 s6 s8 s9 g0 g1 g2 g3 g4 g5 g6 : Value} {L0 L1 L2 L3 L4 L5 L6 bs cs K0 K1 K2 K3 K6 : List Int}
    (h : Bun w s0 s1 s2 s3 s4 s5 s6 s8 s9 g0 g1 g2 g3 g4 g5 g6 L0 L1 L2 L3 L4 L5 L6 bs cs K0 K1 K2 K3 K6) (hb : Below w.heap.size w w') :
    Bun w' s0 s1 s2 s3 s4 s5 s6 s8 s9 g0 g1 g2 g3 g4 g5 g6 L0 L1 L2 L3 L4 L5 L6 bs cs K0 K1 K2 K3 K6 := by
  obtain ⟨⟨⟨a0, a1, a2, a3, a4, a5, a6⟩, a8, a9⟩, b0, b1, b2, b3, b4, b5, b6⟩ := h
  exact ⟨⟨⟨a0.next hb, a1.next hb, a2.next hb, a3.next hb, a4.next hb, a5.next hb, a6.next hb⟩, a8.next hb, a9.next hb⟩, b0.next hb, b1.next hb, b2.next hb, b3.next hb, b4.next hb, b5.next hb, b6.next hb⟩

theorem own_nil (k : IntKind) (e : TypeId) (B : Nat) (w : World) : Own k e B w (.slice none 0 0) [] none := .inl ⟨rfl, .inl ⟨rfl, rfl⟩⟩
theorem rdt_nil (k : IntKind) (w : World) : RdT k w (.slice none 0 0) [] := rd_none _ _ _

/-- The head of a slice of ints. -/
theorem rdt_head {n : Nat} {w : World} {a : Option Addr} {c : Nat} {bs : List Int} (h : RdT .i64 w (.slice a n c) bs) (h0 : 0 < n) :
    ∃ b off, a = some ⟨b, off, none⟩ ∧ w.cell? ⟨b, off, none⟩ = some (.int .i64 (taker bs)) := by
  obtain ⟨a', c', hv, hc, hp⟩ := h
  cases hv
  obtain ⟨b, off, ha, hS, hlt, hcell⟩ := hp h0
  refine ⟨b, off, ha, ?_⟩
  have := hcell 0 h0
  cases bs with
  | nil => simp at h0
  | cons x xs => simpa [taker] using this

/-- What 'v[1:]' is. -/
theorem rdt_tail {n : Nat} {w : World} {a : Option Addr} {c : Nat} {bs : List Int} (h : RdT .i64 w (.slice a n c) bs) (h0 : 0 < n) :
    ∃ x m k, (∀ W, (Instr.slice 44 (.slice a n c) (some (.int .i64 1)) none none).run Try.prog W = .ok (.slice x m k) W) ∧ RdT .i64 w (.slice x m k) bs.tail ∧ m = bs.tail.length := by
  cases bs with
  | nil =>
    obtain ⟨a', c', hv, _⟩ := h
    cases hv; simp at h0
  | cons x xs =>
    obtain ⟨b, off, n', c', V, hv, hn, hB, hlt, hcell, hrun, hR⟩ := rd_cons h
    cases hv
    obtain ⟨a2, c2, hv2, _⟩ := id hR
    subst hv2
    exact ⟨_, _, _, hrun, hR, rfl⟩

theorem grown_qa {a b : World} (o : Obj) (h1 : b.os = a.os) (h2 : b.tape = a.tape) (h3 : b.output = a.output) (h4 : b.heap = a.heap) : a.grownBy (b.alloc o) none :=
  ⟨h1, h2, h3, by simp [h4], fun k hk _ => by rw [Below.heap_alloc b o k (by rw [h4]; exact hk), h4]⟩

/-- An append to a row that began as nil at B: what stood is as it was. -/
theorem below_app {X W w2 : World} {row : Option Nat} {B : Nat} (hX : X.grownBy W none) (hg : W.grownBy w2 row) (hB : B ≤ X.heap.size) (hr : ∀ g, row = some g → B ≤ g) : Below B X w2 :=
  ((Below.refl B X).grown hX hB (fun k hk => by cases hk)).grown hg (Nat.le_trans hB hX.size) hr

theorem less_snoc (xs ys : List Int) (k : Nat) (h : k < xs.length) : less (xs.take (k + 1)) ys = less (xs.take k) ys ++ if has ys (xs.getD k 0) then [] else [xs.getD k 0] := by
  rw [List.take_succ_eq_append_getElem h]
  unfold less has
  rw [List.filter_append]
  congr 1
  have hx : xs.getD k 0 = xs[k] := by simp [h]
  rw [hx]
  by_cases c : ys.contains xs[k] = true
  · rw [if_pos c]; simp only [List.filter_cons, c]; rfl
  · rw [if_neg c]; simp only [List.filter_cons, Bool.not_eq_true] at c ⊢; rw [c]; rfl

theorem less_len (xs ys : List Int) : (less xs ys).length ≤ xs.length := List.length_filter_le _ _

theorem nn_get {xs : List Int} (h : Nn xs) (k : Nat) (hk : k < xs.length) : 0 ≤ xs.getD k 0 ∧ xs.getD k 0 ≤ 9223372036854775807 :=
  h _ (by simp [hk])

/-- One round of a loop over the ids that the other side may lack: it has the id. -/
theorem round_has {A : Int} {B : Nat} {wr : World} {t : Value} {xs ys : List Int} {k : Nat} {rg : Option Nat} (h : Own .u64 26 B wr t ((less (xs.take k) ys).map (ent A)) rg) (hk : k < xs.length) (hx : has ys (xs.getD k 0) = true) :
    Own .u64 26 B wr t ((less (xs.take (k + 1)) ys).map (ent A)) rg := by
  rw [less_snoc xs ys k hk, if_pos hx, List.append_nil]; exact h

/-- .. it lacks it. -/
theorem round_app {A : Int} {B g : Nat} {wr : World} {t : Value} {xs ys : List Int} {k : Nat} {x : Int} (hx0 : xs.getD k 0 = x) (h : Own .u64 26 B wr t ((less (xs.take k) ys).map (ent A) ++ [ent A x]) (some g)) (hk : k < xs.length) (hx : has ys x = false) :
    Own .u64 26 B wr t ((less (xs.take (k + 1)) ys).map (ent A)) (some g) := by
  subst hx0
  rw [less_snoc xs ys k hk, if_neg (by rw [hx]; simp), List.map_append]; exact h

theorem pgone_len (A : Int) (x y : List Int) : (pgone A x y).length ≤ 1 := by unfold pgone; split <;> simp
theorem chg_len (c : Bool) (p : Int) : (if c then [p] else ([] : List Int)).length ≤ 1 := by split <;> simp


end Go.Proofs.Qxb6604322a.Ring
