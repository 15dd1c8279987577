/-
  search (38) and rank (36): the walks.
-/
import Derived.Test.Qxb6604322aTreeF
namespace Go.Proofs.Qxb6604322a.Tree
open Go.ChangeShapes Go.WideShapes Go.ChangeAt Go.RowKit Mem
set_option linter.unusedVariables false
set_option linter.unusedSimpArgs false

/-- The first n values, as a list. -/
def firsts (f : Nat → Int) (n : Nat) : List Int := (List.range n).map f

theorem firsts_len (f : Nat → Int) (n : Nat) : (firsts f n).length = n := by simp [firsts]
theorem firsts_at (f : Nat → Int) (n i : Nat) (h : i < n) : (firsts f n).getD i 0 = f i := by simp [firsts, h]

/-- A node's block: its size, whether it is lowest, its last entries. -/
def Node (w : World) (b n : Nat) (low : Bool) (la : Nat → Int) : Prop :=
  w.cell? ⟨b, 0, none⟩ = some (.int .i64 (n : Int)) ∧ w.cell? ⟨b, 1, none⟩ = some (.bool low) ∧ ∀ i, i < 16 → w.cell? ⟨b, 2 + i, none⟩ = some (.int .u64 (la i))

def IntPost (z : Nat) (w : World) (e : Ending) (w' : World) : Prop := e = .returned (.int .i64 (z : Int)) ∧ ∃ d, w' = w.drewN d

theorem add_zero_mul (b o s : Nat) : (⟨b, o, none⟩ : Addr).add (0 * s) = ⟨b, o, none⟩ := by rw [Addr.add_mid]; simp

theorem slice27 (b o n : Nat) (hn : n ≤ 16) (w : World) : (Instr.sliceAt 27 (.pointer (some ⟨b, o, none⟩)) none (some (.int .i64 (n : Int))) none).run Try.prog w = .ok (.slice (some ⟨b, o, none⟩) n 16) w := by
  have hs : (sizeOf (Try.prog.elem 27)).run Try.prog w = .ok 1 w := by kernel_rfl
  have ha : Try.prog.arrayLen 27 = 16 := by kernel_rfl
  have h := run_sliceAt_array_h w 27 ⟨b, o, none⟩ (by kernel_rfl) .i64 (n : Int) (by omega) (by rw [ha]; omega)
  rw [h, hs, ha, Result.andThen_ok]
  unfold slicedAt
  rw [add_zero_mul, ite_self]
  simp
theorem slice28 (b o n : Nat) (hn : n ≤ 16) (w : World) : (Instr.sliceAt 28 (.pointer (some ⟨b, o, none⟩)) none (some (.int .i64 (n : Int))) none).run Try.prog w = .ok (.slice (some ⟨b, o, none⟩) n 16) w := by
  have hs : (sizeOf (Try.prog.elem 28)).run Try.prog w = .ok 1 w := by kernel_rfl
  have ha : Try.prog.arrayLen 28 = 16 := by kernel_rfl
  have h := run_sliceAt_array_h w 28 ⟨b, o, none⟩ (by kernel_rfl) .i64 (n : Int) (by omega) (by rw [ha]; omega)
  rw [h, hs, ha, Result.andThen_ok]
  unfold slicedAt
  rw [add_zero_mul, ite_self]
  simp
theorem slice30 (b o n : Nat) (hn : n ≤ 16) (w : World) : (Instr.sliceAt 30 (.pointer (some ⟨b, o, none⟩)) none (some (.int .i64 (n : Int))) none).run Try.prog w = .ok (.slice (some ⟨b, o, none⟩) n 16) w := by
  have hs : (sizeOf (Try.prog.elem 30)).run Try.prog w = .ok 1 w := by kernel_rfl
  have ha : Try.prog.arrayLen 30 = 16 := by kernel_rfl
  have h := run_sliceAt_array_h w 30 ⟨b, o, none⟩ (by kernel_rfl) .i64 (n : Int) (by omega) (by rw [ha]; omega)
  rw [h, hs, ha, Result.andThen_ok]
  unfold slicedAt
  rw [add_zero_mul, ite_self]
  simp

set_option maxRecDepth 100000 in
set_option maxHeartbeats 4000000 in
theorem search_any (b n : Nat) (low : Bool) (la : Nat → Int) (x : Int) (w : World) (hN : Node w b n low la) (hn : n ≤ 16) (hu : Up (firsts la n)) :
    Calls Try.prog 38 #[.pointer (some ⟨b, 0, none⟩), .int .u64 x] w (IntPost (cnt x (firsts la n)) w) := by
  have HN : Hid (Node w b n low la) := hN
  have HU : Hid (Up (firsts la n)) := hu
  have c0 := hN.1
  have hlt : b < w.heap.size := cell_lt c0
  have hsl := slice27 b 2 n hn
  clear hN hu
  go_enter Try.func38, Try.ntmps38
  go_wp2_with fail
  have RS : Hid (∀ nq, RdS (fun _ => True) .u64 (w.drewN nq) (.slice (some ⟨b, 2, none⟩) n 16) (firsts la n)) := fun nq => by
    refine RdS.below (w := w) ?_ (below_drewN (Below.refl _ _) _)
    refine ⟨some ⟨b, 2, none⟩, 16, by rw [firsts_len], by rw [firsts_len]; exact hn, fun _ => ⟨b, 2, rfl, True.intro, hlt, fun i hi => ?_⟩⟩
    rw [firsts_len] at hi
    rw [firsts_at _ _ _ hi]
    exact HN.out.2.2 i (by omega)
  have HLn : Hid ((firsts la n).length ≤ 10000000) := by show _ ≤ _; rw [firsts_len]; omega
  go_quiet (first | (go_at_call 39; refine Calls.quiet_of_same (bs_any _ (firsts la n) x _ ?_ HU.out HLn.out); exact RS.out _))
  go_wp2
  go_ret
  exact ⟨rfl, nq, rfl⟩

/-- A node with leaves. -/
def LNode (w : World) (b n : Nat) (la : Nat → Int) (f : Nat → List Int) : Prop :=
  Node w b n true la ∧ ∀ i, i < 16 → ∃ v, w.cell? ⟨b, 34 + i, none⟩ = some v ∧ RdS (fun _ => True) .u64 w v (f i)

def LowOk (n : Nat) (la : Nat → Int) (f : Nat → List Int) : Prop :=
  n ≤ 16 ∧ Up (firsts la n) ∧ (∀ i, i < n → Up (f i)) ∧ sumTo (fun i => (f i).length) 16 ≤ 131072

/-- The rank under a node with leaves. -/
def lowRank (x : Int) (n : Nat) (la : Nat → Int) (f : Nat → List Int) : Nat :=
  sumTo (fun i => (f i).length) (cnt x (firsts la n)) + (if cnt x (firsts la n) < n then cnt x (f (cnt x (firsts la n))) else 0)

/-- A node above nodes with leaves. -/
def HNode (w : World) (b n : Nat) (la : Nat → Int) (cn : Nat → Nat) (kb J : Nat → Nat) (cl : Nat → Nat → Int) (C : Nat → Nat → List Int) : Prop :=
  Node w b n false la ∧ n ≤ 16 ∧ Up (firsts la n) ∧ sumTo cn n ≤ 131072 ∧
    ∀ i, i < n → w.cell? ⟨b, 18 + i, none⟩ = some (.int .i32 (cn i : Int)) ∧ w.cell? ⟨b, 50 + i, none⟩ = some (.pointer (some ⟨kb i, 0, none⟩)) ∧ kb i ≠ b ∧ LNode w (kb i) (J i) (cl i) (C i) ∧ LowOk (J i) (cl i) (C i)

def highRank (x : Int) (n : Nat) (la : Nat → Int) (cn : Nat → Nat) (J : Nat → Nat) (cl : Nat → Nat → Int) (C : Nat → Nat → List Int) : Nat :=
  sumTo cn (cnt x (firsts la n)) + (if cnt x (firsts la n) < n then lowRank x (J (cnt x (firsts la n))) (cl (cnt x (firsts la n))) (C (cnt x (firsts la n))) else 0)

def blockOf : Value → Nat
  | .pointer (some a) => a.block
  | _ => 0

theorem cnt_le (x : Int) (zs : List Int) : cnt x zs ≤ zs.length := List.length_filter_le _ _

def RankPost (z : Nat) (w : World) (e : Ending) (w' : World) : Prop := e = .returned (.int .i64 (z : Int)) ∧ Below w.heap.size w w'

theorem LNode.below {w w' : World} {b n : Nat} {la : Nat → Int} {f : Nat → List Int} (h : LNode w b n la f) (hb : Below w.heap.size w w') : LNode w' b n la f :=
  ⟨⟨below_cell hb h.1.1, below_cell hb h.1.2.1, fun q hq => below_cell hb (h.1.2.2 q hq)⟩, fun q hq => by
    obtain ⟨v, hv, hr⟩ := h.2 q hq
    exact ⟨v, below_cell hb hv, RdS.below hr hb⟩⟩

set_option maxRecDepth 100000 in
set_option maxHeartbeats 4000000 in
theorem rank_any (R A : Nat) (cv : Value) (x : Int) (w : World)
    (h : (∃ n la f, LNode w R n la f ∧ LowOk n la f ∧ A = lowRank x n la f) ∨ (∃ n la cn kb J cl C, HNode w R n la cn kb J cl C ∧ A = highRank x n la cn J cl C)) :
    Calls Try.prog 36 #[.agg #[.pointer (some ⟨R, 0, none⟩), cv], .int .u64 x] w (RankPost A w) := by
  have HH : Hid _ := h
  clear h
  go_enter Try.func36, Try.ntmps36
  go_wp2_with fail
  go_loopw [5, 6, 7, 9, 10, 11, 13] (fun tr tn _ _ _ _ _ wr => ∃ (r b : Nat), tr = .int .i64 (r : Int) ∧ tn = .pointer (some ⟨b, 0, none⟩) ∧ r ≤ 131072 ∧ Hid (Below w.heap.size w wr) ∧ Hid ((∃ n la f, LNode w b n la f ∧ LowOk n la f ∧ A = r + lowRank x n la f ∧ b ≠ R) ∨ (r = 0 ∧ b = R))) (fun _ tn _ _ _ _ _ _ => if blockOf tn = R then 1 else 0)
  case atStart => exact ⟨0, R, rfl, rfl, by omega, (Below.refl _ _).alloc (Nat.le_refl _) _, .inr ⟨rfl, rfl⟩⟩
  case round =>
    obtain ⟨r, b, rfl, rfl, hr, HWB, HK⟩ := hrel
    have HC : Hid ((∃ n la f, LNode w b n la f ∧ LowOk n la f ∧ A = r + lowRank x n la f) ∨ (r = 0 ∧ b = R ∧ ∃ n la cn kb J cl C, HNode w b n la cn kb J cl C ∧ A = highRank x n la cn J cl C)) := by
      rcases HK.out with ⟨n, la, f, h1, h2, h3, h4⟩ | ⟨h1, h2⟩
      · exact .inl ⟨n, la, f, h1, h2, h3⟩
      · rcases HH.out with ⟨n, la, f, h3, h4, h5⟩ | h3
        · subst h1 h2
          exact .inl ⟨n, la, f, h3, h4, by omega⟩
        · subst h2
          exact .inr ⟨h1, rfl, h3⟩
    clear HK
    rcases HC.out with ⟨n, la, f, h1, h2, h3⟩ | ⟨h0, hbR, n, la, cn, kb, J, cl, C, h1, h2⟩
    case inl =>
      obtain ⟨i, HI⟩ : ∃ i, Hid (i = cnt x (firsts la n)) := ⟨_, rfl⟩
      have hi : i ≤ n := by have := cnt_le x (firsts la n); rw [firsts_len] at this; rw [HI.out]; exact this
      have hn : n ≤ 16 := h2.1
      have HN : Hid (LNode wr b n la f) := h1.below HWB.out
      have H2 := hide2 h2 h3
      clear h1 h2 h3 HC
      go_wp2_with fail
      refine (search_any b n true la x wr HN.out.1 hn H2.out.1.2.1).mono ?_
      rintro e w1 ⟨rfl, d1, hd1⟩
      have HB1 : Hid (Below wr.heap.size wr w1) := by rw [hd1]; exact below_drewN (Below.refl _ _) _
      clear hd1
      have HN1 : Hid (LNode w1 b n la f) := HN.out.below HB1.out
      have HW1 : Hid (Below w.heap.size w w1) := HWB.out.trans (HB1.out.mono HWB.out.size)
      rw [← HI.out]
      have c0 := HN1.out.1.1
      have c1 := HN1.out.1.2.1
      have hsl := slice30 b 34 i (by omega)
      go_wp2_with fail
      have HA : Hid (A = r + (sumTo (fun i => (f i).length) i + (if i < n then cnt x (f i) else 0))) := by
        have := H2.out.2
        unfold lowRank at this
        rw [← HI.out] at this
        exact this
      have HS16 : Hid (∀ k, k ≤ 16 → sumTo (fun i => (f i).length) k ≤ 131072) := fun k hk => Nat.le_trans (sumTo_le _ k 16 hk) H2.out.1.2.2.2
      go_loop [5, 9, 31] (fun tr _ tk => ∃ (k q : Nat), k ≤ i ∧ tk = .int .i64 (k : Int) ∧ tr = .int .i64 (q : Int) ∧ q ≤ 262144 ∧ Hid (q = r + sumTo (fun i => (f i).length) k)) (fun _ _ tk => i - (intOf tk).toNat)
      case atStart => exact ⟨0, r, by omega, rfl, rfl, by omega, rfl⟩
      case round =>
        obtain ⟨k, q, hk, rfl, rfl, hq, HQ⟩ := hrel
        by_cases hki : k < i
        case pos =>
          obtain ⟨v, hv, a, c, rfl, hcap, _⟩ := HN1.out.2 k (by omega)
          obtain ⟨m, HM⟩ : ∃ m, Hid (m = (f k).length) := ⟨_, rfl⟩
          rw [← HM.out] at hv hcap
          have hqm : q + m ≤ 262144 := by
            have h1 := HS16.out (k + 1) (by omega)
            simp only [sumTo] at h1
            rw [HQ.out, HM.out]
            omega
          have HQ2 : Hid (q + m = r + sumTo (fun i => (f i).length) (k + 1)) := by show _ = _; rw [HQ.out, HM.out]; simp only [sumTo]; omega
          have hki' : (k : Int) < (i : Int) := by omega
          go_wp2
          go_round
          case rel => exact ⟨k + 1, q + m, by omega, by go_num, by go_num, hqm, HQ2⟩
          case measure => simp [intOf]; omega
        case neg =>
          have HE : Hid (k = i) := by show k = i; omega
          have hq2 : q ≤ 262144 := hq
          by_cases hin : i < n
          case neg =>
            have HF : Hid (q = A) := by
              show _ = _
              rw [HQ.out, HE.out, HA.out, if_neg hin]
              omega
            go_wp2
            go_ret
            refine ⟨?_, HW1.out⟩
            rw [HF.out]
            rfl
          case pos =>
            obtain ⟨v, hv, hrd⟩ := HN1.out.2 i (by omega)
            have HRD : Hid _ := hrd
            clear hrd
            have hin' : (i : Int) < (n : Int) := by omega
            have hi16 : (i : Int) < 16 := by omega
            have hfl : (f i).length ≤ 131072 := by
              have h1 := HS16.out (i + 1) (by omega)
              simp only [sumTo] at h1
              omega
            have hcl : cnt x (f i) ≤ 131072 := Nat.le_trans (cnt_le x _) hfl
            have HFL : Hid ((f i).length ≤ 10000000) := by show _ ≤ _; omega
            have HF : Hid (q + cnt x (f i) = A) := by
              show _ = _
              rw [HQ.out, HE.out, HA.out, if_pos hin]
              omega
            clear hfl
            go_wp2_with fail
            refine (bs_any v (f i) x w1 HRD.out (H2.out.1.2.2.1 i hin) HFL.out).mono ?_
            rintro e w2 ⟨rfl, hw2⟩
            have hw3 := hw2.symm
            subst hw3
            clear hw2
            have hqc : q + cnt x (f i) ≤ 393216 := by omega
            go_wp2
            go_ret
            refine ⟨?_, HW1.out⟩
            rw [← HF.out]
            exact ret_int (by omega)
    case inr =>
      have HC2 := hide2 h1 h2
      have H0 := hide2 h0 hbR
      clear h1 h2 h0 hbR
      obtain ⟨i, HI⟩ : ∃ i, Hid (i = cnt x (firsts la n)) := ⟨_, rfl⟩
      have hi : i ≤ n := by have := cnt_le x (firsts la n); rw [firsts_len] at this; rw [HI.out]; exact this
      have hn : n ≤ 16 := HC2.out.1.2.1
      have HN : Hid (Node wr b n false la) := ⟨below_cell HWB.out HC2.out.1.1.1, below_cell HWB.out HC2.out.1.1.2.1, fun q hq => below_cell HWB.out (HC2.out.1.1.2.2 q hq)⟩
      clear HC
      go_wp2_with fail
      refine (search_any b n false la x wr HN.out hn HC2.out.1.2.2.1).mono ?_
      rintro e w1 ⟨rfl, d1, hd1⟩
      have HB1 : Hid (Below wr.heap.size wr w1) := by rw [hd1]; exact below_drewN (Below.refl _ _) _
      clear hd1
      have HW1 : Hid (Below w.heap.size w w1) := HWB.out.trans (HB1.out.mono HWB.out.size)
      rw [← HI.out]
      have c0 := below_cell HW1.out HC2.out.1.1.1
      have c1 := below_cell HW1.out HC2.out.1.1.2.1
      have hsl := slice28 b 18 i (by omega)
      go_wp2_with fail
      have HA : Hid (A = sumTo cn i + (if i < n then lowRank x (J i) (cl i) (C i) else 0)) := by
        have := HC2.out.2
        unfold highRank at this
        rw [← HI.out] at this
        exact this
      have HS16 : Hid (∀ k, k ≤ n → sumTo cn k ≤ 131072) := fun k hk => Nat.le_trans (sumTo_le _ k n hk) HC2.out.1.2.2.2.1
      go_loop [5, 13, 67] (fun tr _ tk => ∃ (k q : Nat), k ≤ i ∧ tk = .int .i64 (k : Int) ∧ tr = .int .i64 (q : Int) ∧ q ≤ 131072 ∧ Hid (q = sumTo cn k)) (fun _ _ tk => i - (intOf tk).toNat)
      case atStart => exact ⟨0, 0, by omega, rfl, by rw [H0.out.1], by omega, rfl⟩
      case round =>
        obtain ⟨k, q, hk, rfl, rfl, hq, HQ⟩ := hrel
        by_cases hki : k < i
        case pos =>
          have hv := below_cell HW1.out (HC2.out.1.2.2.2.2 k (by omega)).1
          obtain ⟨m, HM⟩ : ∃ m, Hid (m = cn k) := ⟨_, rfl⟩
          rw [← HM.out] at hv
          have hqm : q + m ≤ 131072 := by
            have h1 := HS16.out (k + 1) (by omega)
            simp only [sumTo] at h1
            rw [HQ.out, HM.out]
            omega
          have HQ2 : Hid (q + m = sumTo cn (k + 1)) := by show _ = _; rw [HQ.out, HM.out]; rfl
          have hki' : (k : Int) < (i : Int) := by omega
          go_wp2
          go_round
          case rel => exact ⟨k + 1, q + m, by omega, by go_num, by go_num, hqm, HQ2⟩
          case measure => simp [intOf]; omega
        case neg =>
          have HE : Hid (k = i) := by show k = i; omega
          by_cases hin : i < n
          case neg =>
            have HF : Hid (q = A) := by
              show _ = _
              rw [HQ.out, HE.out, HA.out, if_neg hin]
              omega
            have hb : ((i : Int) == (n : Int)) = true := by simp; omega
            go_wp2
            go_ret
            refine ⟨?_, HW1.out⟩
            rw [HF.out]
            rfl
          case pos =>
            have hv := below_cell HW1.out (HC2.out.1.2.2.2.2 i hin).2.1
            have hb : ((i : Int) == (n : Int)) = false := by simp; omega
            have hi16 : (i : Int) < 16 := by omega
            have HR : Hid (∃ n la f, LNode w (kb i) n la f ∧ LowOk n la f ∧ A = q + lowRank x n la f ∧ kb i ≠ R) := by
              obtain ⟨_, _, h3, h4, h5⟩ := HC2.out.1.2.2.2.2 i hin
              refine ⟨_, _, _, h4, h5, ?_, by rw [← H0.out.2]; exact h3⟩
              rw [HA.out, if_pos hin, HQ.out, HE.out]
            have HKB : Hid (kb i ≠ R) := by obtain ⟨_, _, _, _, _, _, h⟩ := HR.out; exact h
            go_wp2
            go_roundw
            case rel => exact ⟨q, kb i, rfl, rfl, by omega, HW1, .inl HR.out⟩
            case measure => simp [blockOf, HKB.out, H0.out.2]

end Go.Proofs.Qxb6604322a.Tree
