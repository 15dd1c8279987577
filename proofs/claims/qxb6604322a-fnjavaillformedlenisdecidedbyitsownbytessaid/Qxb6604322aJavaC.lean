/-
  The walks of zzStartsValid (9), zzMaximalSubpart (12), the shim (11), zzBytes (8, 13).
-/
import Derived.Test.Qxb6604322aJavaB
namespace Go.Proofs.Qxb6604322a.Java
open Go.ChangeShapes Go.WideShapes Go.ChangeAt Go.RowKit
set_option linter.unusedVariables false
set_option linter.unusedSimpArgs false

theorem ret_bool {a b : Bool} (h : a = b) : Ending.returned (.bool a) = .returned (.bool b) := by rw [h]

theorem starts_hit (zs : List Int) (k : Nat) (hk : k < 9) (h : matched zs (seqRow k false) = (seqRow k false).length) : startsTo zs 9 = true := by
  have : ∀ m, k < m → startsTo zs m = true := by
    intro m
    induction m with
    | zero => intro h; omega
    | succ m ih =>
      intro hm
      simp only [startsTo, Bool.or_eq_true, beq_iff_eq]
      by_cases e : k = m
      · subst e; exact .inr h
      · exact .inl (ih (by omega))
  exact this 9 hk

set_option maxHeartbeats 2000000 in
theorem starts_any (b off len cap : Nat) (zs : List Int) (w : World) (hlen : zs.length = len) (hsz : len ≤ 1048576) (hb : b < w.heap.size)
    (hc : ∀ i, i < len → w.cell? ⟨b, off + i, none⟩ = some (.int .u8 (zs.getD i 0))) :
    Calls Try.prog 9 #[.slice (some ⟨b, off, none⟩) len cap] w fun e w' => e = .returned (.bool (startsTo zs 9)) ∧ Below w.heap.size w w' := by
  have HC : Hid (∀ i, i < len → w.cell? ⟨b, off + i, none⟩ = some (.int .u8 (zs.getD i 0))) := hc
  have HL : Hid (zs.length = len) := hlen
  clear hc hlen
  go_enter Try.func9, Try.ntmps9
  go_wp2
  go_loopw [3] (fun t wr => ∃ k : Nat, k ≤ 9 ∧ t = .int .i64 (k : Int) ∧ Hid (startsTo zs k = false) ∧ Below w.heap.size w wr) (fun t _ => 9 - (intOf t).toNat)
  case atStart => exact ⟨0, by omega, rfl, rfl, Below.refl _ _⟩
  case round =>
    obtain ⟨k, hk, rfl, HS, hbel⟩ := hrel
    by_cases hk9 : k < 9
    · have hs := hbel.size
      go_wp2_with (go_at_call 31; refine (seq_any k hk9 false _).mono ?_; rintro e w1 ⟨n, l0, l1, l2, l3, h0, h1, h2, h3, rfl, hR, hb1⟩)
      have hs1 := hb1.size
      have hB1 := hbel.trans (hb1.mono hs)
      refine (matched_any b off len cap zs n _ l0 l1 l2 l3 h0 h1 h2 h3 _ HL.out hsz hR ?hc).mono ?_
      case hc =>
        intro i hi
        refine (Below.cell (B := w.heap.size) (w := w) (p := ⟨b, off + i, none⟩) ?_ hb).trans (HC.out i hi)
        exact (hB1.alloc (by omega) _).alloc (by simp; omega) _
      rintro e w2 ⟨rfl, hb2⟩
      have hB2 := ((hB1.alloc (by omega) _).alloc (by simp; omega) _).trans (hb2.mono (by simp; omega))
      by_cases hm : matched zs (seqRow k false) = (seqRow k false).length
      · have hmb : (((matched zs (seqRow k false) : Nat) : Int) == n) = true := by simp; have := hR.1; omega
        have HS9 : Hid (startsTo zs 9 = true) := starts_hit zs k hk9 hm
        clear hm hb2
        go_wp2
        go_ret
        exact ⟨ret_bool HS9.out.symm, hB2⟩
      · have hmb : (((matched zs (seqRow k false) : Nat) : Int) == n) = false := by simp; have := hR.1; omega
        have HS1 : Hid (startsTo zs (k + 1) = false) := by
          show _ = _
          simp only [startsTo, Bool.or_eq_false_iff, beq_eq_false_iff_ne]
          exact ⟨HS.out, hm⟩
        clear hm hb2
        go_wp2
        go_roundw
        case rel => exact ⟨k + 1, by omega, by go_num, HS1, hB2⟩
        case measure => simp [intOf]; omega
    · have hk9' : k = 9 := by omega
      subst hk9'
      go_wp2
      go_ret
      exact ⟨ret_bool HS.out.symm, hbel⟩

set_option maxHeartbeats 2000000 in
theorem best_any (b off len cap : Nat) (zs : List Int) (w : World) (hlen : zs.length = len) (hsz : len ≤ 1048576) (hb : b < w.heap.size)
    (hc : ∀ i, i < len → w.cell? ⟨b, off + i, none⟩ = some (.int .u8 (zs.getD i 0))) :
    Calls Try.prog 12 #[.slice (some ⟨b, off, none⟩) len cap] w fun e w' => e = .returned (.int .i64 (bestTo zs 9 : Nat)) ∧ Below w.heap.size w w' := by
  have HC : Hid (∀ i, i < len → w.cell? ⟨b, off + i, none⟩ = some (.int .u8 (zs.getD i 0))) := hc
  have HL : Hid (zs.length = len) := hlen
  clear hc hlen
  go_enter Try.func12, Try.ntmps12
  go_wp2
  go_loopw [3, 4] (fun s t wr => ∃ (k m : Nat), k ≤ 9 ∧ t = .int .i64 (k : Int) ∧ s = .int .i64 (m : Int) ∧ Hid (bestTo zs k = m) ∧ Below w.heap.size w wr) (fun _ t _ => 9 - (intOf t).toNat)
  case atStart => exact ⟨0, 1, by omega, rfl, rfl, rfl, Below.refl _ _⟩
  case round =>
    obtain ⟨k, m, hk, rfl, rfl, HS, hbel⟩ := hrel
    by_cases hk9 : k < 9
    · have hs := hbel.size
      go_wp2_with (go_at_call 31; refine (seq_any k hk9 true _).mono ?_; rintro e w1 ⟨n, l0, l1, l2, l3, h0, h1, h2, h3, rfl, hR, hb1⟩)
      have hs1 := hb1.size
      have hB1 := hbel.trans (hb1.mono hs)
      refine (matched_any b off len cap zs n _ l0 l1 l2 l3 h0 h1 h2 h3 _ HL.out hsz hR ?hc).mono ?_
      case hc =>
        intro i hi
        refine (Below.cell (B := w.heap.size) (w := w) (p := ⟨b, off + i, none⟩) ?_ hb).trans (HC.out i hi)
        exact (hB1.alloc (by omega) _).alloc (by simp; omega) _
      rintro e w2 ⟨rfl, hb2⟩
      have hB2 := ((hB1.alloc (by omega) _).alloc (by simp; omega) _).trans (hb2.mono (by simp; omega))
      obtain ⟨m2, HM⟩ : ∃ m2, Hid (matched zs (seqRow k true) = m2) := ⟨_, rfl⟩
      rw [HM.out]
      by_cases hm : (m : Int) < (m2 : Int)
      · have HS1 : Hid (bestTo zs (k + 1) = m2) := by
          show _ = _
          simp only [bestTo]; rw [HM.out, HS.out, if_pos (by omega)]
        clear hb2
        go_wp2
        go_roundw
        case rel => exact ⟨k + 1, m2, by omega, by go_num, rfl, HS1, hB2⟩
        case measure => simp [intOf]; omega
      · have HS1 : Hid (bestTo zs (k + 1) = m) := by
          show _ = _
          simp only [bestTo]; rw [HM.out, HS.out, if_neg (by omega)]
        clear hb2
        go_wp2
        go_roundw
        case rel => exact ⟨k + 1, m, by omega, by go_num, rfl, HS1, hB2⟩
        case measure => simp [intOf]; omega
    · have hk9' : k = 9 := by omega
      subst hk9'
      go_wp2
      go_ret
      exact ⟨ret_int (by rw [HS.out]), hbel⟩

theorem shim_any (b off len cap : Nat) (c0 : Int) (ps : List Int) (w : World) (hlen : len = ps.length + 1) (hsz : len ≤ 1048576)
    (hc : ∀ i, i < len → w.cell? ⟨b, off + i, none⟩ = some (.int .u8 ((c0 :: ps).getD i 0))) :
    Calls Try.prog 11 #[.slice (some ⟨b, off, none⟩) len cap] w fun e w' => e = .returned (.int .i64 (jlen (c0 :: ps) : Nat)) ∧ w' = w := by
  have H := jil_any b off len cap c0 ps w hlen hsz hc
  clear hlen hc
  go_enter Try.func11, Try.ntmps11
  go_wp2_with (go_at_call 33; refine H.mono ?_; rintro e w1 ⟨rfl, rfl⟩)
  go_ret
  exact ⟨rfl, rfl⟩

theorem bytes8 (a : Option Addr) (len cap : Nat) (w : World) (h : len ≤ maxLen) :
    Calls Try.prog 8 #[.slice a len cap] w fun e w' => e = .returned (.bool (decide (len ≤ 1048576))) ∧ w' = w := by
  unfold maxLen at h
  by_cases c : len ≤ 1048576
  · go_enter Try.func8, Try.ntmps8
    go_wp2
    go_ret
    exact ⟨ret_bool (by simp [c]), rfl⟩
  · go_enter Try.func8, Try.ntmps8
    go_wp2
    go_ret
    exact ⟨ret_bool (by simp [c]), rfl⟩

theorem bytes13 (a : Option Addr) (len cap : Nat) (w : World) (h : len ≤ maxLen) :
    Calls Try.prog 13 #[.slice a len cap] w fun e w' => e = .returned (.bool (decide (len ≤ 1048576))) ∧ w' = w := by
  unfold maxLen at h
  by_cases c : len ≤ 1048576
  · go_enter Try.func13, Try.ntmps13
    go_wp2
    go_ret
    exact ⟨ret_bool (by simp [c]), rfl⟩
  · go_enter Try.func13, Try.ntmps13
    go_wp2
    go_ret
    exact ⟨ret_bool (by simp [c]), rfl⟩

end Go.Proofs.Qxb6604322a.Java
