/-
  Slices of integers: what a slice value reads as ('RdS'), a slice that an append never writes through ('Own'), and one append. Over any program.
-/
import Derived.WalkKit
import Derived.ProofKit
import Derived.Below
import Derived.ArgAppend
import Derived.Deep.OwnRows
import Derived.Deep.AppendLies
import Derived.Deep.QuietTactic
import Derived.BigQuiet
namespace Go.Proofs.Qxb6605226a.Mem
open Go.ChangeShapes Go.WideShapes Go.ChangeAt Go.RowKit
set_option linter.unusedVariables false
set_option linter.unusedSimpArgs false

/-- The slice value v reads as zs; what it reads lies in a block that meets S. -/
def RdS (S : Nat → Prop) (k : IntKind) (w : World) (v : Value) (zs : List Int) : Prop :=
  ∃ a c, v = .slice a zs.length c ∧ zs.length ≤ c ∧ (0 < zs.length → ∃ b off, a = some ⟨b, off, none⟩ ∧ S b ∧ b < w.heap.size ∧ ∀ i, i < zs.length → w.cell? ⟨b, off + i, none⟩ = some (.int k (zs.getD i 0)))

theorem RdS.kept {S : Nat → Prop} {k : IntKind} {w w' : World} {v : Value} {zs : List Int} (h : RdS S k w v zs) (hb : ∀ b, S b → b < w.heap.size → w'.heap[b]? = w.heap[b]?) (hs : w.heap.size ≤ w'.heap.size) : RdS S k w' v zs := by
  obtain ⟨a, c, hv, hc, hp⟩ := h
  refine ⟨a, c, hv, hc, fun h0 => ?_⟩
  obtain ⟨b, off, ha, hS, hlt, hcell⟩ := hp h0
  exact ⟨b, off, ha, hS, by omega, fun i hi => (World.cell?_of_block (a := ⟨b, off + i, none⟩) (hb b hS hlt)).trans (hcell i hi)⟩

theorem RdS.weaken {S T : Nat → Prop} {k : IntKind} {w : World} {v : Value} {zs : List Int} (h : RdS S k w v zs) (hb : ∀ b, b < w.heap.size → S b → T b) : RdS T k w v zs := by
  obtain ⟨a, c, hv, hc, hp⟩ := h
  refine ⟨a, c, hv, hc, fun h0 => ?_⟩
  obtain ⟨b, off, ha, hS, hlt, hcell⟩ := hp h0
  exact ⟨b, off, ha, hb b hlt hS, hlt, hcell⟩

/-- v reads as zs and is full (nil, or its capacity is its length): an append to it writes nothing that was there. Or it is a row of the call's own, in block 'row', from B on. -/
def Own (k : IntKind) (e : TypeId) (B : Nat) (w : World) (v : Value) (zs : List Int) (row : Option Nat) : Prop :=
  (row = none ∧ ((v = .slice none 0 0 ∧ zs = []) ∨ ∃ x, v = .slice (some x) zs.length zs.length ∧ (0 < zs.length → x.block < B) ∧ ∀ i, i < zs.length → w.cell? (x.add i) = some (.int k (zs.getD i 0)))) ∨
  (∃ g, row = some g ∧ v.ownBlock = some g ∧ w.ownsRow B e 1 v zs.length (zs.map (Value.int k)))

section
variable {k : IntKind} {e : TypeId} {B : Nat} {w w' : World} {v : Value} {zs : List Int} {row : Option Nat}

theorem Own.low (h : Own k e B w v zs row) : ∀ g, row = some g → B ≤ g ∧ g < w.heap.size := by
  intro g hg
  rcases h with ⟨rfl, _⟩ | ⟨g', rfl, hv, ho⟩
  · cases hg
  · cases hg; exact ho.lt g hv

theorem add_block (x : Addr) (i : Nat) : (x.add i).block = x.block := by unfold Addr.add; split <;> rfl

theorem Own.kept {row' : Option Nat} (h : Own k e B w v zs row) (hg : w.grownBy w' row') (hB : B ≤ w.heap.size) (hr : ∀ g, row' = some g → B ≤ g ∧ row ≠ some g) : Own k e B w' v zs row := by
  rcases h with ⟨rfl, hv | ⟨x, hv, hx, hc⟩⟩ | ⟨g, rfl, hv, ho⟩
  · exact .inl ⟨rfl, .inl hv⟩
  · refine .inl ⟨rfl, .inr ⟨x, hv, hx, fun i hi => ?_⟩⟩
    have hxb := hx (by omega)
    rw [World.cell?_of_block (w := w) (a := x.add i) (by
      rw [add_block]
      exact hg.block x.block (by omega) (fun e => by have := (hr x.block e.symm).1; omega))]
    exact hc i hi
  · refine .inr ⟨g, rfl, hv, ho.kept hg (.inr ?_)⟩
    rw [hv]
    intro e
    exact (hr g e.symm).2 rfl

theorem grown_none_alloc (w : World) (o : Obj) : w.grownBy (w.alloc o) none := World.grownBy_alloc w o none
theorem grown_none_drew (w : World) : w.grownBy w.drew none := ⟨rfl, rfl, rfl, Nat.le_refl _, fun _ _ _ => rfl⟩
theorem grown_none_drewN (w : World) (n : Nat) : w.grownBy (w.drewN n) none := ⟨rfl, rfl, rfl, Nat.le_refl _, fun _ _ _ => rfl⟩

theorem Own.alloc (h : Own k e B w v zs row) (hB : B ≤ w.heap.size) (o : Obj) : Own k e B (w.alloc o) v zs row := h.kept (grown_none_alloc w o) hB (fun g hg => by cases hg)
theorem Own.drew (h : Own k e B w v zs row) (hB : B ≤ w.heap.size) : Own k e B w.drew v zs row := h.kept (grown_none_drew w) hB (fun g hg => by cases hg)
theorem Own.drewN (h : Own k e B w v zs row) (hB : B ≤ w.heap.size) (n : Nat) : Own k e B (w.drewN n) v zs row := h.kept (grown_none_drewN w n) hB (fun g hg => by cases hg)

/-- The one cell of a block that was made just now. -/
theorem one_cell (W : World) (u : Value) (t : TypeId) : (W.alloc (.cells #[u] t)).cell? ⟨W.heap.size, 0, none⟩ = some u := by
  simp

theorem grown_da (w : World) (n : Nat) (o : Obj) : w.grownBy ((w.drewN n).alloc o) none := ⟨rfl, rfl, rfl, by simp [World.drewN], fun k hk _ => Below.heap_alloc (w.drewN n) o k hk⟩

/-- A cell behind draws, a new block and an append that writes another row. -/
theorem keep_cell {wr W w2 : World} {row : Option Nat} {a : Addr} {u : Value} (h : wr.cell? a = some u) (hW : wr.grownBy W none) (hg : W.grownBy w2 row) (hne : some a.block ≠ row) : w2.cell? a = some u :=
  hg.cell (hW.cell h (by simp)) hne

/-- What an owned slice reads as. -/
theorem Own.rd (h : Own k e B w v zs row) (hB : B ≤ w.heap.size) : RdS (fun b => b < B ∨ row = some b) k w v zs := by
  rcases h with ⟨rfl, ⟨hv, hz⟩ | ⟨x, hv, hx, hc⟩⟩ | ⟨g, rfl, hv, ho⟩
  · subst hz; exact ⟨none, 0, by simpa using hv, Nat.le_refl _, fun h => by simp at h⟩
  · refine ⟨some x, zs.length, hv, Nat.le_refl _, fun h0 => ?_⟩
    obtain ⟨b, off, spot⟩ := x
    have h00 := hc 0 h0
    have hspot : spot = none := by simpa [Addr.add] using World.cell?_spot h00
    subst hspot
    refine ⟨b, off, rfl, .inl (hx h0), Nat.lt_of_lt_of_le (hx h0) hB, fun i hi => by rw [← add_plain]; exact hc i hi⟩
  · rcases ho.2 with ⟨hv', h0⟩ | ⟨g', cap, cur, hv', hb, hg, hle, hmx, hcs, htk⟩
    · rw [hv'] at hv; simp [Value.ownBlock] at hv
    · rw [hv'] at hv
      simp [Value.ownBlock] at hv
      subst hv
      refine ⟨_, cap, hv', hle, fun h0 => ⟨g', 0, rfl, .inr rfl, (Array.getElem?_eq_some_iff.1 hg).1, fun i hi => ?_⟩⟩
      rw [Nat.zero_add, cell_of_row w g' i cur e (0, 0) hg]
      have h1 : (cur.toList.take (zs.length * 1))[i]? = (zs.map (Value.int k))[i]? := by rw [htk]
      rw [List.getElem?_take, if_pos (by omega)] at h1
      simp only [Array.getElem?_toList] at h1
      rw [h1]
      simp [hi]

/-- A row of the call's own reads in its own block alone. -/
theorem Own.rd_some {g : Nat} (h : Own k e B w v zs (some g)) : RdS (· = g) k w v zs := by
  rcases h with ⟨hn, _⟩ | ⟨g0, hg0, hv, ho⟩
  · cases hn
  · cases hg0
    rcases ho.2 with ⟨hv', h0⟩ | ⟨g', cap, cur, hv', hb, hg, hle, hmx, hcs, htk⟩
    · rw [hv'] at hv; simp [Value.ownBlock] at hv
    · rw [hv'] at hv
      simp [Value.ownBlock] at hv
      subst hv
      refine ⟨_, cap, hv', hle, fun h0 => ⟨g', 0, rfl, rfl, (Array.getElem?_eq_some_iff.1 hg).1, fun i hi => ?_⟩⟩
      rw [Nat.zero_add, cell_of_row w g' i cur e (0, 0) hg]
      have h1 : (cur.toList.take (zs.length * 1))[i]? = (zs.map (Value.int k))[i]? := by rw [htk]
      rw [List.getElem?_take, if_pos (by omega)] at h1
      simp only [Array.getElem?_toList] at h1
      rw [h1]
      simp [hi]

end

section
variable {P : Program}

/-- ONE APPEND. -/
theorem own_append {k : IntKind} {e t : TypeId} {bytes : Nat} (ht : P.underlying t = some (.slice e)) (hinfo : (P.info? e).map (fun i => (i.zero, i.size, i.bytes)) = some (some (.int k 0), 1, bytes)) (hby : bytes ≤ 8)
    {B : Nat} (w : World) (ty : TypeId) {v : Value} {zs : List Int} {row : Option Nat} (h : Own k e B w v zs row) (hB : B ≤ w.heap.size) (hlen : zs.length ≤ 10000000)
    (ad : Addr) (c : Nat) (x : Int) (hx : w.cell? ad = some (.int k x)) :
    ∃ g cap w', (Builtin.append_ #[t, t] ty #[v, .slice (some ad) 1 c]).run P w = .ok (.slice (some ⟨g, 0, none⟩) (zs.length + 1) cap) w' ∧
      Own k e B w' (.slice (some ⟨g, 0, none⟩) (zs.length + 1) cap) (zs ++ [x]) (some g) ∧ w.grownBy w' row ∧ (row = some g ∨ w.heap.size ≤ g) ∧ g < w'.heap.size := by
  obtain ⟨i, hi, hz, hs, hb⟩ : ∃ i, P.info? e = some i ∧ i.zero = some (.int k 0) ∧ i.size = 1 ∧ i.bytes = bytes := by
    obtain ⟨i, hi, hzz⟩ := Option.map_eq_some_iff.1 hinfo
    simp only [Prod.mk.injEq] at hzz
    exact ⟨i, hi, hzz.1, hzz.2.1, hzz.2.2⟩
  have hnews : ∀ (j : Nat) u, [Value.int k x][j]? = some u → w.cell? (ad.add j) = some u := by
    intro j u hj
    match j, hj with
    | 0, hj => simp at hj; subst hj; simpa [Addr.add] using hx
  have h1 : ∀ u ∈ [Value.int k x], u.oneCell' = true := by intro u hu; simp at hu; subst hu; rfl
  have b1 : zs.length + 1 ≤ maxLen := by unfold maxLen; omega
  have b2 : (zs.length + 1) * bytes ≤ 140737488355328 := by
    have : (zs.length + 1) * bytes ≤ (zs.length + 1) * 8 := Nat.mul_le_mul_left _ hby
    omega
  have viaOwn : ∀ (v : Value) (row : Option Nat), v.ownBlock = row → w.ownsRow B e 1 v zs.length (zs.map (Value.int k)) →
      ∃ g cap w', (Builtin.append_ #[t, t] ty #[v, .slice (some ad) 1 c]).run P w = .ok (.slice (some ⟨g, 0, none⟩) (zs.length + 1) cap) w' ∧
      Own k e B w' (.slice (some ⟨g, 0, none⟩) (zs.length + 1) cap) (zs ++ [x]) (some g) ∧ w.grownBy w' row ∧ (row = some g ∨ w.heap.size ≤ g) ∧ g < w'.heap.size := by
    intro v row hrow ho
    obtain ⟨g, cap, w', hr, h2, h3, h4, h5⟩ := run_append_lies (P := P) w t ty B e i (.int k 0) 1 bytes ht hi hz hs hb rfl (by decide) v zs.length (zs.map (Value.int k)) ho ad 1 c [.int k x] rfl hnews h1 (by decide) b1 b2 hB w.heap.size rfl
    refine ⟨g, cap, w', hr, .inr ⟨g, rfl, rfl, ?_⟩, by rw [← hrow]; exact h3, ?_, h5⟩
    · simpa using h2
    · rw [← hrow]; rcases h4 with h4 | h4
      · exact .inl h4
      · exact .inr (by omega)
  rcases h with ⟨rfl, ⟨rfl, hz0⟩ | ⟨a, rfl, hxb, hc⟩⟩ | ⟨g, rfl, hv, ho⟩
  · exact viaOwn _ _ rfl (by subst hz0; exact World.ownsRow_nil w B e 1)
  · obtain ⟨v', w', hr, h2, h3⟩ := run_append_arg_grows (P := P) w t ty e i (.int k 0) 1 bytes ht hi hz hs hb rfl (by decide) a zs.length zs.length (zs.map (Value.int k)) (by simp) (by
      intro j u hj
      simp at hj
      obtain ⟨y, hy, rfl⟩ := hj
      have hjl := (List.getElem?_eq_some_iff.1 hy).1
      rw [hc j hjl]
      simp [hy]) ad 1 c [.int k x] rfl hnews (by omega) b1 b2
    obtain ⟨g, cap, rfl, hgb, hlt⟩ := h2.form (by omega)
    refine ⟨g, cap, w', hr, .inr ⟨g, rfl, rfl, ?_⟩, h3, .inr hgb, hlt⟩
    have := h2
    rcases this.2 with ⟨h, _⟩ | ⟨g', cap', cur, hv', hb', rest⟩
    · cases h
    · refine ⟨by simp, .inr ⟨g', cap', cur, ?_, by omega, ?_⟩⟩
      · simpa using hv'
      · simpa using rest
  · exact viaOwn _ _ hv ho

/-- At the operation. -/
theorem wp_append_mine {k : IntKind} {e : TypeId} {bytes : Nat} {o : Oper} {a : Act} {K : Act → World → Prop} {Q : Exit → Act → World → Prop} (s y : Operand) (t : TypeId)
    (ho : o.op = .call { callee := .builtin .append, args := #[s, y], argTypes := #[t, t] })
    (ht : P.underlying t = some (.slice e)) (hinfo : (P.info? e).map (fun i => (i.zero, i.size, i.bytes)) = some (some (.int k 0), 1, bytes)) (hby : bytes ≤ 8)
    (B : Nat) (w : World) (v : Value) (zs : List Int) (row : Option Nat) (hs : a.eval s = v) (h : Own k e B w v zs row) (hB : B ≤ w.heap.size) (hlen : zs.length ≤ 10000000)
    (ad : Addr) (c : Nat) (x : Int) (hy : a.eval y = .slice (some ad) 1 c) (hx : w.cell? ad = some (.int k x))
    (hK : ∀ g cap w', Own k e B w' (.slice (some ⟨g, 0, none⟩) (zs.length + 1) cap) (zs ++ [x]) (some g) → w.grownBy w' row → (row = some g ∨ w.heap.size ≤ g) → g < w'.heap.size → K (a.put o.dst (.slice (some ⟨g, 0, none⟩) (zs.length + 1) cap)) w') : o.wp P a w K Q := by
  obtain ⟨g, cap, w', hr, h2, h3, h4, h5⟩ := own_append (P := P) ht hinfo hby w o.type h hB hlen ad c x hx
  unfold Oper.wp execOp
  simp only [ho, resolve, invoke, builtin, Sem.run_bind, Sem.run_pure, Result.andThen_ok, List.map_toArray, List.map_cons, List.map_nil, hs, hy, hr]
  exact hK g cap w' h2 h3 h4 h5

/-- At the list of a plain region's operations. -/
theorem wpList_append_mine {k : IntKind} {e : TypeId} {bytes : Nat} {ops : Array Oper} {rest : List Oper} {o : Oper} {a : Act} {Q : Exit → Act → World → Prop} (hgd : o.guard = none) (s y : Operand) (t : TypeId)
    (ho : o.op = .call { callee := .builtin .append, args := #[s, y], argTypes := #[t, t] })
    (ht : P.underlying t = some (.slice e)) (hinfo : (P.info? e).map (fun i => (i.zero, i.size, i.bytes)) = some (some (.int k 0), 1, bytes)) (hby : bytes ≤ 8)
    (B : Nat) (w : World) (v : Value) (zs : List Int) (row : Option Nat) (hs : a.eval s = v) (h : Own k e B w v zs row) (hB : B ≤ w.heap.size) (hlen : zs.length ≤ 10000000)
    (ad : Addr) (c : Nat) (x : Int) (hy : a.eval y = .slice (some ad) 1 c) (hx : w.cell? ad = some (.int k x))
    (hK : ∀ g cap w', Own k e B w' (.slice (some ⟨g, 0, none⟩) (zs.length + 1) cap) (zs ++ [x]) (some g) → w.grownBy w' row → (row = some g ∨ w.heap.size ≤ g) → g < w'.heap.size → wpList P ops Q rest (a.put o.dst (.slice (some ⟨g, 0, none⟩) (zs.length + 1) cap)) w') : wpList P ops Q (o :: rest) a w :=
  wpList_plain hgd fun _ hK' => wp_append_mine s y t ho ht hinfo hby B w v zs row hs h hB hlen ad c x hy hx fun g cap w' h2 h3 h4 h5 => hK' _ _ (hK g cap w' h2 h3 h4 h5)

/-- At a step of a region that draws its order. -/
theorem step_append_mine {k : IntKind} {e : TypeId} {bytes : Nat} {ops : Array Oper} {o : Oper} {a : Act} {K : Act → World → Prop} {Q : Exit → Act → World → Prop} {E : Prop} (hgd : o.guard = none) (s y : Operand) (t : TypeId)
    (ho : o.op = .call { callee := .builtin .append, args := #[s, y], argTypes := #[t, t] })
    (ht : P.underlying t = some (.slice e)) (hinfo : (P.info? e).map (fun i => (i.zero, i.size, i.bytes)) = some (some (.int k 0), 1, bytes)) (hby : bytes ≤ 8)
    (B : Nat) (w : World) (v : Value) (zs : List Int) (row : Option Nat) (hs : a.eval s = v) (h : Own k e B w v zs row) (hB : B ≤ w.heap.size) (hlen : zs.length ≤ 10000000)
    (ad : Addr) (c : Nat) (x : Int) (hy : a.eval y = .slice (some ad) 1 c) (hx : w.cell? ad = some (.int k x))
    (hK : ∀ g cap w', Own k e B w' (.slice (some ⟨g, 0, none⟩) (zs.length + 1) cap) (zs ++ [x]) (some g) → w.grownBy w' row → (row = some g ∨ w.heap.size ≤ g) → g < w'.heap.size → K (a.put o.dst (.slice (some ⟨g, 0, none⟩) (zs.length + 1) cap)) w') :
    if Region.wanted o (yielded ops a.tmps) = true then Oper.wp P o a w K Q else E := by
  have hw : Region.wanted o (yielded ops a.tmps) = true := by simp [Region.wanted, hgd]
  rw [if_pos hw]
  exact wp_append_mine s y t ho ht hinfo hby B w v zs row hs h hB hlen ad c x hy hx hK

end
end Go.Proofs.Qxb6605226a.Mem
