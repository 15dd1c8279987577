/-
  The walks of zzSeqRow (31) and zzMatched (32).
-/
import Derived.Test.Qxb6604322aJavaA
import Derived.Deep.QuietTactic
import Derived.BigQuiet
import Derived.Deep.OwnRows
import Derived.WalkSmall
namespace Go.Proofs.Qxb6604322a.Java
open Go.ChangeShapes Go.WideShapes Go.ChangeAt Go.RowKit
set_option linter.unusedVariables false
set_option linter.unusedSimpArgs false

/-- What zzSeqRow hands back for row k. -/
def RowIs (rs : List (Int × Int)) (n l0 l1 l2 l3 h0 h1 h2 h3 : Int) : Prop :=
  (rs.length : Int) = n ∧ n ≤ 4 ∧ ∀ t, t < rs.length → rs.getD t (0, 0) = ([l0, l1, l2, l3].getD t 0, [h0, h1, h2, h3].getD t 0)

theorem rowIs1 (a0 b0 : Int) : RowIs [(a0, b0)] 1 a0 0 0 0 b0 0 0 0 :=
  ⟨rfl, by omega, fun t ht => match t, ht with | 0, _ => rfl⟩
theorem rowIs2 (a0 b0 a1 b1 : Int) : RowIs [(a0, b0), (a1, b1)] 2 a0 a1 0 0 b0 b1 0 0 :=
  ⟨rfl, by omega, fun t ht => match t, ht with | 0, _ => rfl | 1, _ => rfl⟩
theorem rowIs3 (a0 b0 a1 b1 a2 b2 : Int) : RowIs [(a0, b0), (a1, b1), (a2, b2)] 3 a0 a1 a2 0 b0 b1 b2 0 :=
  ⟨rfl, by omega, fun t ht => match t, ht with | 0, _ => rfl | 1, _ => rfl | 2, _ => rfl⟩
theorem rowIs4 (a0 b0 a1 b1 a2 b2 a3 b3 : Int) : RowIs [(a0, b0), (a1, b1), (a2, b2), (a3, b3)] 4 a0 a1 a2 a3 b0 b1 b2 b3 :=
  ⟨rfl, by omega, fun t ht => match t, ht with | 0, _ => rfl | 1, _ => rfl | 2, _ => rfl | 3, _ => rfl⟩

def SeqPost (k : Nat) (java : Bool) (w : World) (e : Ending) (w' : World) : Prop :=
  ∃ n l0 l1 l2 l3 h0 h1 h2 h3 : Int, e = .returned (.tuple #[.int .i64 n, .agg #[.int .u8 l0, .int .u8 l1, .int .u8 l2, .int .u8 l3], .agg #[.int .u8 h0, .int .u8 h1, .int .u8 h2, .int .u8 h3]]) ∧
    RowIs (seqRow k java) n l0 l1 l2 l3 h0 h1 h2 h3 ∧ Below w.heap.size w w'

set_option maxHeartbeats 1000000 in
theorem seq0 (java : Bool) (w : World) : Calls Try.prog 31 #[.int .i64 0, .bool java] w (SeqPost 0 java w) := by
  go_enter Try.func31, Try.ntmps31
  go_wp2
  refine bodyPost_ret (v := .tuple #[.int .i64 1, .agg #[.int .u8 0, .int .u8 0, .int .u8 0, .int .u8 0], .agg #[.int .u8 127, .int .u8 0, .int .u8 0, .int .u8 0]]) (by simp [results, Try.results31, go_sem]) rfl ?_
  exact ⟨_, _, _, _, _, _, _, _, _, rfl, rowIs1 _ _, ((Below.refl _ _).alloc (Nat.le_refl _) _).alloc (by simp) _⟩

set_option maxHeartbeats 1000000 in
theorem seq1 (java : Bool) (w : World) : Calls Try.prog 31 #[.int .i64 1, .bool java] w (SeqPost 1 java w) := by
  go_enter Try.func31, Try.ntmps31
  go_wp2
  refine bodyPost_ret (v := .tuple #[.int .i64 2, .agg #[.int .u8 194, .int .u8 128, .int .u8 0, .int .u8 0], .agg #[.int .u8 223, .int .u8 191, .int .u8 0, .int .u8 0]]) (by simp [results, Try.results31, go_sem]) rfl ?_
  exact ⟨_, _, _, _, _, _, _, _, _, rfl, rowIs2 _ _ _ _, ((Below.refl _ _).alloc (Nat.le_refl _) _).alloc (by simp) _⟩

set_option maxHeartbeats 1000000 in
theorem seq2 (java : Bool) (w : World) : Calls Try.prog 31 #[.int .i64 2, .bool java] w (SeqPost 2 java w) := by
  go_enter Try.func31, Try.ntmps31
  go_wp2
  refine bodyPost_ret (v := .tuple #[.int .i64 3, .agg #[.int .u8 224, .int .u8 160, .int .u8 128, .int .u8 0], .agg #[.int .u8 224, .int .u8 191, .int .u8 191, .int .u8 0]]) (by simp [results, Try.results31, go_sem]) rfl ?_
  exact ⟨_, _, _, _, _, _, _, _, _, rfl, rowIs3 _ _ _ _ _ _, ((Below.refl _ _).alloc (Nat.le_refl _) _).alloc (by simp) _⟩

set_option maxHeartbeats 1000000 in
theorem seq3 (java : Bool) (w : World) : Calls Try.prog 31 #[.int .i64 3, .bool java] w (SeqPost 3 java w) := by
  go_enter Try.func31, Try.ntmps31
  go_wp2
  refine bodyPost_ret (v := .tuple #[.int .i64 3, .agg #[.int .u8 225, .int .u8 128, .int .u8 128, .int .u8 0], .agg #[.int .u8 236, .int .u8 191, .int .u8 191, .int .u8 0]]) (by simp [results, Try.results31, go_sem]) rfl ?_
  exact ⟨_, _, _, _, _, _, _, _, _, rfl, rowIs3 _ _ _ _ _ _, ((Below.refl _ _).alloc (Nat.le_refl _) _).alloc (by simp) _⟩

set_option maxHeartbeats 1000000 in
theorem seq4t (w : World) : Calls Try.prog 31 #[.int .i64 4, .bool true] w (SeqPost 4 true w) := by
  go_enter Try.func31, Try.ntmps31
  go_wp2
  refine bodyPost_ret (v := .tuple #[.int .i64 3, .agg #[.int .u8 237, .int .u8 128, .int .u8 128, .int .u8 0], .agg #[.int .u8 237, .int .u8 191, .int .u8 191, .int .u8 0]]) (by simp [results, Try.results31, go_sem]) rfl ?_
  exact ⟨_, _, _, _, _, _, _, _, _, rfl, rowIs3 _ _ _ _ _ _, ((Below.refl _ _).alloc (Nat.le_refl _) _).alloc (by simp) _⟩

set_option maxHeartbeats 1000000 in
theorem seq4f (w : World) : Calls Try.prog 31 #[.int .i64 4, .bool false] w (SeqPost 4 false w) := by
  go_enter Try.func31, Try.ntmps31
  go_wp2
  refine bodyPost_ret (v := .tuple #[.int .i64 3, .agg #[.int .u8 237, .int .u8 128, .int .u8 128, .int .u8 0], .agg #[.int .u8 237, .int .u8 159, .int .u8 191, .int .u8 0]]) (by simp [results, Try.results31, go_sem]) rfl ?_
  exact ⟨_, _, _, _, _, _, _, _, _, rfl, rowIs3 _ _ _ _ _ _, ((Below.refl _ _).alloc (Nat.le_refl _) _).alloc (by simp) _⟩

set_option maxHeartbeats 1000000 in
theorem seq5 (java : Bool) (w : World) : Calls Try.prog 31 #[.int .i64 5, .bool java] w (SeqPost 5 java w) := by
  go_enter Try.func31, Try.ntmps31
  go_wp2
  refine bodyPost_ret (v := .tuple #[.int .i64 3, .agg #[.int .u8 238, .int .u8 128, .int .u8 128, .int .u8 0], .agg #[.int .u8 239, .int .u8 191, .int .u8 191, .int .u8 0]]) (by simp [results, Try.results31, go_sem]) rfl ?_
  exact ⟨_, _, _, _, _, _, _, _, _, rfl, rowIs3 _ _ _ _ _ _, ((Below.refl _ _).alloc (Nat.le_refl _) _).alloc (by simp) _⟩

set_option maxHeartbeats 1000000 in
theorem seq6 (java : Bool) (w : World) : Calls Try.prog 31 #[.int .i64 6, .bool java] w (SeqPost 6 java w) := by
  go_enter Try.func31, Try.ntmps31
  go_wp2
  refine bodyPost_ret (v := .tuple #[.int .i64 4, .agg #[.int .u8 240, .int .u8 144, .int .u8 128, .int .u8 128], .agg #[.int .u8 240, .int .u8 191, .int .u8 191, .int .u8 191]]) (by simp [results, Try.results31, go_sem]) rfl ?_
  exact ⟨_, _, _, _, _, _, _, _, _, rfl, rowIs4 _ _ _ _ _ _ _ _, ((Below.refl _ _).alloc (Nat.le_refl _) _).alloc (by simp) _⟩

set_option maxHeartbeats 1000000 in
theorem seq7 (java : Bool) (w : World) : Calls Try.prog 31 #[.int .i64 7, .bool java] w (SeqPost 7 java w) := by
  go_enter Try.func31, Try.ntmps31
  go_wp2
  refine bodyPost_ret (v := .tuple #[.int .i64 4, .agg #[.int .u8 241, .int .u8 128, .int .u8 128, .int .u8 128], .agg #[.int .u8 243, .int .u8 191, .int .u8 191, .int .u8 191]]) (by simp [results, Try.results31, go_sem]) rfl ?_
  exact ⟨_, _, _, _, _, _, _, _, _, rfl, rowIs4 _ _ _ _ _ _ _ _, ((Below.refl _ _).alloc (Nat.le_refl _) _).alloc (by simp) _⟩

set_option maxHeartbeats 1000000 in
theorem seq8 (java : Bool) (w : World) : Calls Try.prog 31 #[.int .i64 8, .bool java] w (SeqPost 8 java w) := by
  go_enter Try.func31, Try.ntmps31
  go_wp2
  refine bodyPost_ret (v := .tuple #[.int .i64 4, .agg #[.int .u8 244, .int .u8 128, .int .u8 128, .int .u8 128], .agg #[.int .u8 244, .int .u8 143, .int .u8 191, .int .u8 191]]) (by simp [results, Try.results31, go_sem]) rfl ?_
  exact ⟨_, _, _, _, _, _, _, _, _, rfl, rowIs4 _ _ _ _ _ _ _ _, ((Below.refl _ _).alloc (Nat.le_refl _) _).alloc (by simp) _⟩

theorem seq_any (k : Nat) (hk : k < 9) (java : Bool) (w : World) : Calls Try.prog 31 #[.int .i64 (k : Int), .bool java] w (SeqPost k java w) := by
  match k, hk with
  | 0, _ => exact seq0 java w
  | 1, _ => exact seq1 java w
  | 2, _ => exact seq2 java w
  | 3, _ => exact seq3 java w
  | 4, _ => cases java; exact seq4f w; exact seq4t w
  | 5, _ => exact seq5 java w
  | 6, _ => exact seq6 java w
  | 7, _ => exact seq7 java w
  | 8, _ => exact seq8 java w

set_option maxHeartbeats 2000000 in
theorem matched_any (b off len cap : Nat) (zs : List Int) (n : Int) (rs : List (Int × Int)) (l0 l1 l2 l3 h0 h1 h2 h3 : Int) (w : World) (hlen : zs.length = len) (hsz : len ≤ 1048576)
    (hr : RowIs rs n l0 l1 l2 l3 h0 h1 h2 h3)
    (hc : ∀ i, i < len → w.cell? ⟨b, off + i, none⟩ = some (.int .u8 (zs.getD i 0))) :
    Calls Try.prog 32 #[.slice (some ⟨b, off, none⟩) len cap, .int .i64 n, .agg #[.int .u8 l0, .int .u8 l1, .int .u8 l2, .int .u8 l3], .agg #[.int .u8 h0, .int .u8 h1, .int .u8 h2, .int .u8 h3]] w
      fun e w' => e = .returned (.int .i64 (matched zs rs : Nat)) ∧ Below w.heap.size w w' := by
  obtain ⟨hrn, hn4, hrr⟩ := hr
  have HL : Hid (zs.length = len) := hlen
  have HR : Hid ((rs.length : Int) = n) := hrn
  have HRR : Hid (∀ t, t < rs.length → rs.getD t (0, 0) = ([l0, l1, l2, l3].getD t 0, [h0, h1, h2, h3].getD t 0)) := hrr
  have HC : Hid (∀ i, i < len → w.cell? ⟨b, off + i, none⟩ = some (.int .u8 (zs.getD i 0))) := hc
  have hn0 : 0 ≤ n := by omega
  clear hlen hrn hrr hc
  go_enter Try.func32, Try.ntmps32
  go_wp2
  go_loopw [9] (fun t wr => ∃ k : Nat, (k : Int) ≤ n ∧ t = .int .i64 (k : Int) ∧ k ≤ matched zs rs ∧ Hid (∀ i, i < 4 → wr.cell? ⟨w.heap.size, i, none⟩ = some (.int .u8 ([l0, l1, l2, l3].getD i 0))) ∧
      Hid (∀ i, i < 4 → wr.cell? ⟨w.heap.size + 1, i, none⟩ = some (.int .u8 ([h0, h1, h2, h3].getD i 0))) ∧ Below w.heap.size w wr) (fun t _ => 5 - (intOf t).toNat)
  case atStart =>
    refine ⟨0, by omega, rfl, Nat.zero_le _, ?_, ?_, ((Below.refl _ _).alloc (Nat.le_refl _) _).alloc (by simp) _⟩
    · show ∀ i, _ → _
      intro i hi
      match i, hi with
      | 0, _ => simp
      | 1, _ => simp
      | 2, _ => simp
      | 3, _ => simp
    · show ∀ i, _ → _
      intro i hi
      match i, hi with
      | 0, _ => simp
      | 1, _ => simp
      | 2, _ => simp
      | 3, _ => simp
  case round =>
    obtain ⟨k, hk, rfl, hm, HLo, HHi, hbel⟩ := hrel
    by_cases hkn : (k : Int) < n
    · by_cases hkl : (k : Int) < (len : Int)
      · obtain ⟨v, HV⟩ : ∃ v, Hid (zs.getD k 0 = v) := ⟨_, rfl⟩
        obtain ⟨l, Hl⟩ : ∃ v, Hid ([l0, l1, l2, l3].getD k 0 = v) := ⟨_, rfl⟩
        obtain ⟨h, Hh⟩ : ∃ v, Hid ([h0, h1, h2, h3].getD k 0 = v) := ⟨_, rfl⟩
        have hk4 : (k : Int) < 4 := by omega
        have hb : b < w.heap.size := World.block_lt_of_cell? _ _ (HC.out k (by omega))
        have c1 : wr.cell? ⟨b, off + k, none⟩ = some (.int .u8 v) := by rw [hbel.cell (p := ⟨b, off + k, none⟩) hb, HC.out k (by omega), HV.out]
        have c2 : wr.cell? ⟨w.heap.size, k, none⟩ = some (.int .u8 l) := by rw [HLo.out k (by omega), Hl.out]
        have c3 : wr.cell? ⟨w.heap.size + 1, k, none⟩ = some (.int .u8 h) := by rw [HHi.out k (by omega), Hh.out]
        have HD : Hid (rs.getD k (0, 0) = (l, h)) := by show _ = _; rw [HRR.out k (by have := HR.out; omega), Hl.out, Hh.out]
        by_cases hv : v < l
        · have HJ : Hid (matched zs rs = k) := matched_stop zs rs k hm (.inr (.inr (by rw [HD.out, HV.out]; simp only; omega)))
          go_wp2
          go_quiet (fail)
          go_wp2
          go_ret
          exact ⟨ret_int (by rw [HJ.out]), below_drewN hbel _⟩
        · by_cases hu : h < v
          · have HJ : Hid (matched zs rs = k) := matched_stop zs rs k hm (.inr (.inr (by rw [HD.out, HV.out]; simp only; omega)))
            go_wp2
            go_quiet (fail)
            go_wp2
            go_ret
            exact ⟨ret_int (by rw [HJ.out]), below_drewN hbel _⟩
          · have HN : Hid (k + 1 ≤ matched zs rs) := matched_step zs rs k hm (by have := HL.out; omega) (by have := HR.out; omega) (by rw [HD.out, HV.out]; simp only; omega)
            go_wp2
            go_quiet (fail)
            go_wp2
            go_roundw
            case rel => exact ⟨k + 1, by omega, by go_num, HN.out, fun i hi => HLo.out i hi, fun i hi => HHi.out i hi, below_drewN hbel _⟩
            case measure => simp [intOf]; omega
      · have HJ : Hid (matched zs rs = k) := matched_stop zs rs k hm (.inl (by have := HL.out; omega))
        have hd : decide ((k : Int) < (len : Int)) = false := by simpa using hkl
        go_wp2
        go_ret
        exact ⟨ret_int (by rw [HJ.out]), hbel⟩
    · have HJ : Hid (matched zs rs = k) := matched_stop zs rs k hm (.inr (.inl (by have := HR.out; omega)))
      have hd : decide ((k : Int) < n) = false := by simpa using hkn
      go_wp2
      go_ret
      exact ⟨ret_int (by rw [HJ.out]), hbel⟩

end Go.Proofs.Qxb6604322a.Java
