/-
  FnNewReadViewIsSortedOthers (4): the walk.
-/
import Derived.Test.Qxb6605226aViewM
namespace Go.Proofs.Qxb6605226a.View
open Go.ChangeShapes Go.WideShapes Go.ChangeAt Go.RowKit Mem
set_option linter.unusedVariables false
set_option linter.unusedSimpArgs false

theorem own_rowx {B : Nat} {w : World} {v : Value} {zs : List Int} {g : Nat} (h : Own .u64 27 B w v zs (some g)) : ∃ b C, v = .slice (some ⟨b, 0, none⟩) zs.length C ∧ B ≤ b ∧ RowX w b C zs.length (fun i => zs.getD i 0) := by
  rcases h with ⟨h, _⟩ | ⟨g', hg, hv, hrow⟩
  · cases h
  · cases hg
    rcases hrow.2 with ⟨rfl, _⟩ | ⟨g2, cap, cur, rfl, hbase, hblk, q1, q2, q3, q4⟩
    · simp [Value.ownBlock] at hv
    · refine ⟨g2, cap, rfl, hbase, fun i => cur[i]?.getD undef, ⟨cur, hblk, by omega, fun i hi => ?_⟩, q1, fun j hj => ?_⟩
      · show cur[i]? = some (cur[i]?.getD undef)
        rw [Array.getElem?_eq_getElem (by omega)]; rfl
      · have q5 : (cur.toList.take (zs.length * 1))[j]? = (zs.map (Value.int .u64))[j]? := by rw [q4]
        rw [List.getElem?_take, if_pos (by omega), List.getElem?_map] at q5
        show cur[j]?.getD undef = _
        rw [← Array.getElem?_toList, q5]
        simp [hj]

theorem RowX.rd {w : World} {b C n : Nat} {X : Nat → Int} (h : RowX w b C n X) : RdS (· = b) .u64 w (.slice (some ⟨b, 0, none⟩) n C) (seg X 0 n) := by
  obtain ⟨f, h1, h2, h3⟩ := id h
  refine ⟨some ⟨b, 0, none⟩, C, by rw [seg_len]; rfl, by rw [seg_len]; omega, fun h0 => ⟨b, 0, rfl, rfl, h1.lt, fun i hi => ?_⟩⟩
  rw [seg_len] at hi
  rw [Nat.zero_add, h.cell (by omega)]
  have := segN_at X 0 (n - 0) i hi
  rw [Nat.zero_add] at this
  unfold seg
  rw [this]

/-- The sorted others, as the law's own sort gives them. -/
def WantPost (own : Int) (zs : List Int) (w : World) (e : Ending) (w' : World) : Prop :=
  ∃ b C, e = .returned (.slice (some ⟨b, 0, none⟩) (act own zs).length C) ∧ w.heap.size ≤ b ∧ RdS (· = b) .u64 w' (.slice (some ⟨b, 0, none⟩) (act own zs).length C) (act own zs) ∧ Below w.heap.size w w'

theorem want_of {own : Int} {zs : List Int} {w w2 : World} {v : Value} {g : Nat} (h : Got w w2 v (others own zs) (some g)) (hl : zs.length ≤ 200000) :
    Calls Try.prog 11 #[v] w2 (fun e w' => ∃ b C, e = .returned (.slice (some ⟨b, 0, none⟩) (act own zs).length C) ∧ w.heap.size ≤ b ∧ RdS (· = b) .u64 w' (.slice (some ⟨b, 0, none⟩) (act own zs).length C) (act own zs) ∧ Below w.heap.size w w') := by
  obtain ⟨b, C, rfl, hb, hr⟩ := own_rowx h.1
  refine (merge_any w.heap.size b C _ _ w2 hr hb h.2.size (Nat.le_trans (others_len own zs) hl)).mono ?_
  rintro e w' ⟨b', C', Z, rfl, h1, h2, h3, h4⟩
  have e1 : seg Z 0 (others own zs).length = act own zs := by rw [h2, seg_list]; rfl
  have h5 := h1.rd
  rw [e1] at h5
  refine ⟨b', C', by rw [act_len], h3, ?_, h.2.trans h4⟩
  rw [act_len]; exact h5

theorem neq_nil (w : World) (a : Option Addr) (n c n' c' : Nat) : (binOp .neq 25 (.slice a n c) (.slice none n' c')).run Try.prog w = .ok (.bool (!a.isNone)) w := by
  simp [binOp, Op.equal, Op.maxDepth, Lib.run_equalIn_slice_nil w 9999 25 27 a n c n' c' under25]

/-- The ids' own row, whatever it holds by now. -/
def IdRow (B B1 n : Nat) (a : Option Addr) (c : Nat) (wr : World) : Prop :=
  (0 < n → ∃ b f, a = some ⟨b, 0, none⟩ ∧ B ≤ b ∧ b < B1 ∧ n ≤ c ∧ wr.rowIs b 27 c f ∧ ∀ q, q < n → ∃ z, f q = .int .u64 z)

theorem idrow_of {B n : Nat} {a : Option Addr} {c : Nat} {w1 w9 : World} {zs : List Int} (h : Vec B w1 (.slice a n c) zs) (hl : n = zs.length) (hb : ∀ b, b < w1.heap.size → w9.heap[b]? = w1.heap[b]?) : IdRow B w1.heap.size n a c w9 := fun h0 => by
  rcases h with ⟨e, e2⟩ | ⟨b, C, g, e, h1, h2, h3, h4⟩
  · rw [hl, e2] at h0; simp at h0
  · injection e with e1 e2 e3
    subst e1 e3
    exact ⟨b, g, rfl, h1, h3.lt, by omega, h3.of_block (hb b h3.lt), fun q hq => ⟨_, h4 q (by omega)⟩⟩

set_option maxRecDepth 100000 in
set_option maxHeartbeats 4000000 in
theorem law4 (own next : Int) (v : Value) (zs : List Int) (w : World) (hs : RdS (fun _ => True) .u64 w v zs) (hn : zs.length ≤ 9223372036854775807) (hz : ∀ i, 0 ≤ zs.getD i 0 ∧ zs.getD i 0 ≤ 18446744073709551615)
    (hnil : ∀ c, v = .slice none 0 c → c = 0) (ho : 0 ≤ own ∧ own ≤ 18446744073709551615) (hx : 0 ≤ next ∧ next ≤ 18446744073709551615) :
    Calls Try.prog 4 #[.int .u64 own, v, .int .u64 next] w fun e w' => e = .returned (.bool true) ∧ Below w.heap.size w w' := by
  have HS := hide2 hs (hide2 hz hnil)
  obtain ⟨a, c, rfl, hcap, hp⟩ := hs
  obtain ⟨n, HN⟩ : ∃ n, Hid (n = zs.length) := ⟨_, rfl⟩
  rw [← HN.out] at hp hcap hn HS ⊢
  obtain ⟨ho1, ho2⟩ := ho
  obtain ⟨hx1, hx2⟩ := hx
  clear hp hz hnil
  by_cases h20 : n ≤ 1048576
  case neg =>
    have hd : decide (n ≤ 1048576) = false := by simpa using h20
    go_enter Try.func4, Try.ntmps4
    go_wp2_with fail
    refine (bytes10 (.int .u64 own) (.int .u64 next) a n c w hn).mono ?_
    rintro e w1 ⟨rfl, hw1'⟩
    have hw3 := hw1'.symm
    subst hw3
    clear hw1'
    go_wp2
    go_ret
    exact ⟨rfl, Below.refl _ _⟩
  have hd20 : decide (n ≤ 1048576) = true := by simpa using h20
  by_cases h17 : n ≤ 131072
  case neg =>
    go_enter Try.func4, Try.ntmps4
    go_wp2_with fail
    refine (bytes10 (.int .u64 own) (.int .u64 next) a n c w hn).mono ?_
    rintro e w1 ⟨rfl, hw1'⟩
    have hw3 := hw1'.symm
    subst hw3
    clear hw1'
    go_wp2
    go_ret
    exact ⟨rfl, Below.refl _ _⟩
  go_enter Try.func4, Try.ntmps4
  go_wp2_with fail
  refine (bytes10 (.int .u64 own) (.int .u64 next) a n c w hn).mono ?_
  rintro e w1 ⟨rfl, hw1'⟩
  have hw3 := hw1'.symm
  subst hw3
  clear hw1'
  go_wp2_with fail
  have T := copy_any (.slice a n c) zs w HS.out.1 (by rw [← HN.out]; omega) HS.out.2.out.1 HS.out.2.out.2
  refine T.mono ?_
  clear T
  rintro e w1 ⟨v1, rfl, hv1, hb1⟩
  have H1 := hide2 hv1 hb1
  obtain ⟨a1, c1, hv1', hcc, hp1⟩ := hv1.rd
  rw [← HN.out] at hv1' hp1
  subst hv1'
  clear hp1 hv1 hb1 hcc
  go_wp2_with fail
  have T := copy_any (.slice a n c) zs w1 (HS.out.1.kept (fun b _ hb => H1.out.2.block b hb) H1.out.2.size) (by rw [← HN.out]; omega) HS.out.2.out.1 HS.out.2.out.2
  refine T.mono ?_
  clear T
  rintro e w2 ⟨v2, rfl, hv2, hb2⟩
  have H2 := hide2 hv2 hb2
  obtain ⟨a2, c2, hv2', hcc, hp2⟩ := hv2.rd
  rw [← HN.out] at hv2' hp2
  subst hv2'
  clear hp2 hv2 hb2 hcc
  have G2 : Hid (Below w.heap.size w w2) := H1.out.2.trans (H2.out.2.mono H1.out.2.size)
  go_wp2_with fail
  refine (without_any own (.slice a2 n c2) zs w2 (by have := H2.out.1.rd.weaken (T := fun _ => True) (fun _ _ _ => True.intro); exact this) (by rw [← HN.out]; omega)).mono ?_
  rintro e w3 ⟨v3, g, rfl, hg3⟩
  have H3 : Hid (Got w2 w3 v3 (others own zs) (some g)) := hg3
  clear hg3
  go_wp2_with fail
  have T := want_of H3.out (by rw [← HN.out]; omega)
  refine T.mono ?_
  clear T
  rintro e w4 ⟨bw, Cw, rfl, hbw, hrw, hb4⟩
  have H4 : Hid (w2.heap.size ≤ bw ∧ RdS (· = bw) .u64 w4 (.slice (some ⟨bw, 0, none⟩) (act own zs).length Cw) (act own zs) ∧ Below w2.heap.size w2 w4) := ⟨hbw, hrw, hb4⟩
  clear hbw hrw hb4 H3
  have G4 : Hid (Below w.heap.size w w4) := G2.out.trans (H4.out.2.2.mono G2.out.size)
  obtain ⟨A, HA⟩ : ∃ A, Hid (A = act own zs) := ⟨_, rfl⟩
  obtain ⟨m, HM⟩ : ∃ m, Hid (m = A.length) := ⟨_, rfl⟩
  rw [← HA.out, ← HM.out] at H4
  rw [← HA.out, ← HM.out]
  have HLA : Hid (A.length ≤ 10000000) := by
    show _ ≤ _
    rw [HA.out, act_len]
    have := others_len own zs
    rw [← HN.out] at this
    omega
  have hm1 : m ≤ 10000000 := by rw [HM.out]; exact HLA.out
  have B14 : Hid (Below w1.heap.size w1 w4) := H2.out.2.trans (H4.out.2.2.mono H2.out.2.size)
  have HID : Hid (HV w.heap.size w4 (.slice a1 n c1) zs) := H1.out.1.hv.kept (fun b _ hb => B14.out.block b hb) B14.out.size
  have HVW : Hid (Calls Try.prog 8 #[.int .u64 own, .slice a1 n c1, .int .u64 next] w4 (fun e w' => ∃ a5 c5, e = .returned (.agg #[.int .u64 own, .slice a5 m c5, .int .u64 (A.headD next), .int .u64 next]) ∧ (A = [] → a5 = none) ∧ Hid (HV w4.heap.size w' (.slice a5 m c5) A ∧ Below w4.heap.size w4 w'))) := by
    refine Calls.mono (view_any own next w.heap.size (.slice a1 n c1) zs w4 HID.out (by rw [← HN.out]; omega)) ?_
    rintro e w' ⟨v5, rfl, g4, g5, g6⟩
    rw [← HA.out] at g4 g5 ⊢
    obtain ⟨a5, c5, rfl, _⟩ := g4.rd
    rw [← HM.out] at g4 g5 ⊢
    exact ⟨a5, c5, rfl, fun h => by have := g5 h; injection this, g4, g6⟩
  go_wp2_with fail
  refine Calls.mono HVW.out ?_
  clear HVW
  rintro e w5 ⟨a5, c5, rfl, hnl, F5⟩
  have HNL : Hid (A = [] → a5 = none) := hnl
  clear hnl
  obtain ⟨L, HL⟩ : ∃ L, Hid (L = A.headD next) := ⟨_, rfl⟩
  rw [← HL.out]
  have G5 : Hid (Below w.heap.size w w5) := G4.out.trans (F5.out.2.mono G4.out.size)
  go_wp2_with fail
  obtain ⟨w6, hw6⟩ : ∃ w6, w6 = w5.alloc (.cells #[.int .u64 own, .slice a5 m c5, .int .u64 L, .int .u64 next] 29) := ⟨_, rfl⟩
  have B6 : Hid (Below w5.heap.size w5 w6) := by rw [hw6]; exact (Below.refl _ _).alloc (Nat.le_refl _) _
  rw [← hw6]
  clear hw6
  refine (fields_any (.int .u64 own) (.slice a5 m c5) (.int .u64 L) (.int .u64 next) w6).mono ?_
  rintro e w7 ⟨rfl, hb7⟩
  have B7 : Hid (Below w5.heap.size w5 w7) := B6.out.trans (hb7.mono B6.out.size)
  clear hb7
  have G7 : Hid (Below w.heap.size w w7) := G5.out.trans (B7.out.mono G5.out.size)
  have B47 : Hid (Below w4.heap.size w4 w7) := F5.out.2.trans (B7.out.mono F5.out.2.size)
  have B17 : Hid (Below w1.heap.size w1 w7) := B14.out.trans (B47.out.mono B14.out.size)
  have B27 : Hid (Below w2.heap.size w2 w7) := H4.out.2.2.trans (B47.out.mono H4.out.2.2.size)
  have RA : Hid (RdS (fun b => w4.heap.size ≤ b) .u64 w7 (.slice a5 m c5) A) := F5.out.1.rd.kept (fun b _ hb => B7.out.block b hb) B7.out.size
  have RW : Hid (RdS (fun b => w2.heap.size ≤ b) .u64 w7 (.slice (some ⟨bw, 0, none⟩) m Cw) A) := (H4.out.2.1.kept (fun b _ hb => B47.out.block b hb) B47.out.size).weaken (fun b _ e => by rw [e]; exact H4.out.1)
  have RI : Hid (HV w.heap.size w7 (.slice a1 n c1) zs) := H1.out.1.hv.kept (fun b _ hb => B17.out.block b hb) B17.out.size
  have RK : Hid (RdS (fun _ => True) .u64 w7 (.slice a2 n c2) zs) := (H2.out.1.rd.kept (fun b _ hb => B27.out.block b hb) B27.out.size).weaken (fun _ _ _ => True.intro)
  have RIS : Hid (RdS (fun _ => True) .u64 w7 (.slice a1 n c1) zs) := RI.out.rd.weaken (fun _ _ _ => True.intro)
  have RAT : Hid (RdS (fun _ => True) .u64 w7 (.slice a5 m c5) A) := RA.out.weaken (fun _ _ _ => True.intro)
  have RWT : Hid (RdS (fun _ => True) .u64 w7 (.slice (some ⟨bw, 0, none⟩) m Cw) A) := RW.out.weaken (fun _ _ _ => True.intro)
  have HZL : Hid (zs.length ≤ 10000000) := by show _ ≤ _; rw [← HN.out]; omega
  have HII : Hid (∀ b, a1 = some ⟨b, 0, none⟩ → b < w1.heap.size) := fun b hb => by
    rcases H1.out.1.hv with ⟨h, _⟩ | ⟨b', C', h, _, h3, _⟩
    · rw [hb] at h; cases h
    · rw [hb] at h
      injection h with h
      injection h with h
      injection h with h
      rw [h]; exact h3
  have hs1 : (own != own) = false := by simp
  have hs2 : (next != next) = false := by simp
  have hs3 : (L != L) = false := by simp
  cases A with
  | nil =>
    have hm0 : m = 0 := by rw [HM.out]; rfl
    have ha5 : a5 = none := HNL.out rfl
    have hL : L = next := HL.out
    have hneq := fun w => neq_nil w none 0 c5 0 0
    subst hm0 ha5 hL
    obtain ⟨w8, hw8⟩ : ∃ w8, w8 = w7 := ⟨_, rfl⟩
    have E8 : Hid (w8.heap = w7.heap ∧ Below w7.heap.size w7 w8) := by rw [hw8]; exact ⟨rfl, Below.refl _ _⟩
    go_wp2_with fail
    rw [← hw8]
    clear hw8 hneq
    have G8 : Hid (Below w.heap.size w w8) := G7.out.trans (E8.out.2.mono G7.out.size)
    have T := same_any (.slice a1 n c1) (.slice a2 n c2) zs zs w8 (RIS.out.kept (fun b _ _ => by rw [E8.out.1]) E8.out.2.size) (RK.out.kept (fun b _ _ => by rw [E8.out.1]) E8.out.2.size) HZL.out HZL.out
    rw [show decide (zs = zs) = true by simp] at T
    refine T.mono ?_
    clear T
    rintro e w9 ⟨rfl, d9, hw9⟩
    have E9 : Hid (w9.heap = w7.heap ∧ Below w8.heap.size w8 w9) := by rw [hw9]; exact ⟨E8.out.1, below_drewN (Below.refl _ _) _⟩
    clear hw9
    have G9 : Hid (Below w.heap.size w w9) := G8.out.trans (E9.out.2.mono G8.out.size)
    have HI9 : Hid (IdRow w.heap.size w1.heap.size n a1 c1 w9) := idrow_of H1.out.1 HN.out (fun b hb => by rw [E9.out.1]; exact B17.out.block b hb)
    go_wp2_with fail
    go_loopw [15] (fun t wr => ∃ k : Nat, k ≤ n ∧ t = .int .i64 (k : Int) ∧ Hid (Below w.heap.size w wr) ∧ Hid (IdRow w.heap.size w1.heap.size n a1 c1 wr) ∧ Hid ((∀ b, w1.heap.size ≤ b → wr.heap[b]? = w7.heap[b]?) ∧ w7.heap.size ≤ wr.heap.size)) (fun t _ => n - (intOf t).toNat)
    case atStart => exact ⟨0, by omega, rfl, G9, HI9, fun b _ => by rw [E9.out.1], by rw [E9.out.1]; exact Nat.le_refl _⟩
    case round =>
      clear HI9
      obtain ⟨k, hk, rfl, HG, HIR, HOT⟩ := hrel
      by_cases hlt : k < n
      case pos =>
        obtain ⟨b, f, hab, hB, hB1, hnc, hrow, hf⟩ := HIR.out (by omega)
        subst hab
        obtain ⟨z, hz⟩ := hf k hlt
        have e1 := hrow.cell (i := k) (by omega)
        rw [hz] at e1
        have e2 := hrow.frozen k
        have hlt' : (k : Int) < (n : Int) := by omega
        have HR2 : Hid (∀ z', IdRow w.heap.size w1.heap.size n (some ⟨b, 0, none⟩) c1 (wr.setCell ⟨b, k, none⟩ (.int .u64 z'))) := fun z' _ => by
          refine ⟨b, _, rfl, hB, hB1, hnc, hrow.set k _, fun q hq => ?_⟩
          by_cases e : q = k
          · exact ⟨z', by rw [if_pos e]⟩
          · rw [if_neg e]; exact hf q hq
        have HG2 : Hid (∀ z', Below w.heap.size w (wr.setCell ⟨b, k, none⟩ (.int .u64 z'))) := fun z' => HG.out.setCell hB _
        have HO2 : Hid (∀ z', (∀ b', w1.heap.size ≤ b' → (wr.setCell ⟨b, k, none⟩ (.int .u64 z')).heap[b']? = w7.heap[b']?) ∧ w7.heap.size ≤ (wr.setCell ⟨b, k, none⟩ (.int .u64 z')).heap.size) := fun z' =>
          ⟨fun b' hb' => by rw [Below.heap_setCell _ _ _ _ (by simp; omega)]; exact HOT.out.1 b' hb', by simp [World.setCell]; exact HOT.out.2⟩
        clear hrow hf hz
        go_wp2
        go_roundw
        case rel => exact ⟨k + 1, by omega, by go_num, HG2.out _, HR2.out _, HO2.out _⟩
        case measure => simp [intOf]; omega
      case neg =>
        have HRA : Hid (RdS (fun _ => True) .u64 wr (.slice none 0 c5) ([] : List Int)) := (RA.out.kept (fun b hb _ => HOT.out.1 b (Nat.le_trans B14.out.size hb)) HOT.out.2).weaken (fun _ _ _ => True.intro)
        have HRW : Hid (RdS (fun _ => True) .u64 wr (.slice (some ⟨bw, 0, none⟩) 0 Cw) ([] : List Int)) := (RW.out.kept (fun b hb _ => HOT.out.1 b (Nat.le_trans H2.out.2.size hb)) HOT.out.2).weaken (fun _ _ _ => True.intro)
        go_wp2_with fail
        have T := same_any (.slice none 0 c5) (.slice (some ⟨bw, 0, none⟩) 0 Cw) ([] : List Int) ([] : List Int) wr HRA.out HRW.out HLA.out HLA.out
        rw [show decide (([] : List Int) = ([] : List Int)) = true by simp] at T
        refine T.mono ?_
        clear T
        rintro e w11 ⟨rfl, d, hw11⟩
        have G11 : Hid (Below w.heap.size w w11) := by rw [hw11]; exact below_drewN HG.out d
        clear hw11
        go_wp2
        go_ret
        exact ⟨rfl, G11.out⟩
  | cons y ys =>
    have hm0 : 0 < m := by rw [HM.out]; simp
    have hL : y = L := by rw [HL.out]; rfl
    have hw0 : w7.cell? ⟨bw, 0, none⟩ = some (.int .u64 L) := by
      obtain ⟨a', c', he, _, hp'⟩ := RW.out
      obtain ⟨b', o', e1, _, _, hc'⟩ := hp' (by simp)
      have he1 : some (⟨bw, 0, none⟩ : Addr) = a' := by injection he
      rw [e1] at he1
      have he2 : (⟨bw, 0, none⟩ : Addr) = ⟨b', o', none⟩ := Option.some.inj he1
      have he3 : bw = b' := congrArg Addr.block he2
      have he4 : 0 = o' := congrArg Addr.off he2
      have := hc' 0 (by simp)
      rw [← he3, ← he4] at this
      rw [← hL]
      exact this
    clear hL
    go_wp2_with fail
    have T := same_any (.slice a5 m c5) (.slice (some ⟨bw, 0, none⟩) m Cw) (y :: ys) (y :: ys) w7 RAT.out RWT.out HLA.out HLA.out
    rw [show decide ((y :: ys) = (y :: ys)) = true by simp] at T
    refine T.mono ?_
    clear T
    rintro e w8 ⟨rfl, d8, hw8⟩
    have E8 : Hid (w8.heap = w7.heap ∧ Below w7.heap.size w7 w8) := by rw [hw8]; exact ⟨rfl, below_drewN (Below.refl _ _) _⟩
    clear hw8 hw0
    go_wp2_with fail
    have G8 : Hid (Below w.heap.size w w8) := G7.out.trans (E8.out.2.mono G7.out.size)
    have T := same_any (.slice a1 n c1) (.slice a2 n c2) zs zs w8 (RIS.out.kept (fun b _ _ => by rw [E8.out.1]) E8.out.2.size) (RK.out.kept (fun b _ _ => by rw [E8.out.1]) E8.out.2.size) HZL.out HZL.out
    rw [show decide (zs = zs) = true by simp] at T
    refine T.mono ?_
    clear T
    rintro e w9 ⟨rfl, d9, hw9⟩
    have E9 : Hid (w9.heap = w7.heap ∧ Below w8.heap.size w8 w9) := by rw [hw9]; exact ⟨E8.out.1, below_drewN (Below.refl _ _) _⟩
    clear hw9
    have G9 : Hid (Below w.heap.size w w9) := G8.out.trans (E9.out.2.mono G8.out.size)
    have HI9 : Hid (IdRow w.heap.size w1.heap.size n a1 c1 w9) := idrow_of H1.out.1 HN.out (fun b hb => by rw [E9.out.1]; exact B17.out.block b hb)
    go_wp2_with fail
    go_loopw [15] (fun t wr => ∃ k : Nat, k ≤ n ∧ t = .int .i64 (k : Int) ∧ Hid (Below w.heap.size w wr) ∧ Hid (IdRow w.heap.size w1.heap.size n a1 c1 wr) ∧ Hid ((∀ b, w1.heap.size ≤ b → wr.heap[b]? = w7.heap[b]?) ∧ w7.heap.size ≤ wr.heap.size)) (fun t _ => n - (intOf t).toNat)
    case atStart => exact ⟨0, by omega, rfl, G9, HI9, fun b _ => by rw [E9.out.1], by rw [E9.out.1]; exact Nat.le_refl _⟩
    case round =>
      clear HI9
      obtain ⟨k, hk, rfl, HG, HIR, HOT⟩ := hrel
      by_cases hlt : k < n
      case pos =>
        obtain ⟨b, f, hab, hB, hB1, hnc, hrow, hf⟩ := HIR.out (by omega)
        subst hab
        obtain ⟨z, hz⟩ := hf k hlt
        have e1 := hrow.cell (i := k) (by omega)
        rw [hz] at e1
        have e2 := hrow.frozen k
        have hlt' : (k : Int) < (n : Int) := by omega
        have HR2 : Hid (∀ z', IdRow w.heap.size w1.heap.size n (some ⟨b, 0, none⟩) c1 (wr.setCell ⟨b, k, none⟩ (.int .u64 z'))) := fun z' _ => by
          refine ⟨b, _, rfl, hB, hB1, hnc, hrow.set k _, fun q hq => ?_⟩
          by_cases e : q = k
          · exact ⟨z', by rw [if_pos e]⟩
          · rw [if_neg e]; exact hf q hq
        have HG2 : Hid (∀ z', Below w.heap.size w (wr.setCell ⟨b, k, none⟩ (.int .u64 z'))) := fun z' => HG.out.setCell hB _
        have HO2 : Hid (∀ z', (∀ b', w1.heap.size ≤ b' → (wr.setCell ⟨b, k, none⟩ (.int .u64 z')).heap[b']? = w7.heap[b']?) ∧ w7.heap.size ≤ (wr.setCell ⟨b, k, none⟩ (.int .u64 z')).heap.size) := fun z' =>
          ⟨fun b' hb' => by rw [Below.heap_setCell _ _ _ _ (by simp; omega)]; exact HOT.out.1 b' hb', by simp [World.setCell]; exact HOT.out.2⟩
        clear hrow hf hz
        go_wp2
        go_roundw
        case rel => exact ⟨k + 1, by omega, by go_num, HG2.out _, HR2.out _, HO2.out _⟩
        case measure => simp [intOf]; omega
      case neg =>
        have HRA : Hid (RdS (fun _ => True) .u64 wr (.slice a5 m c5) (y :: ys)) := (RA.out.kept (fun b hb _ => HOT.out.1 b (Nat.le_trans B14.out.size hb)) HOT.out.2).weaken (fun _ _ _ => True.intro)
        have HRW : Hid (RdS (fun _ => True) .u64 wr (.slice (some ⟨bw, 0, none⟩) m Cw) (y :: ys)) := (RW.out.kept (fun b hb _ => HOT.out.1 b (Nat.le_trans H2.out.2.size hb)) HOT.out.2).weaken (fun _ _ _ => True.intro)
        go_wp2_with fail
        have T := same_any (.slice a5 m c5) (.slice (some ⟨bw, 0, none⟩) m Cw) (y :: ys) (y :: ys) wr HRA.out HRW.out HLA.out HLA.out
        rw [show decide ((y :: ys) = (y :: ys)) = true by simp] at T
        refine T.mono ?_
        clear T
        rintro e w11 ⟨rfl, d, hw11⟩
        have G11 : Hid (Below w.heap.size w w11) := by rw [hw11]; exact below_drewN HG.out d
        clear hw11
        go_wp2
        go_ret
        exact ⟨rfl, G11.out⟩

end Go.Proofs.Qxb6605226a.View
