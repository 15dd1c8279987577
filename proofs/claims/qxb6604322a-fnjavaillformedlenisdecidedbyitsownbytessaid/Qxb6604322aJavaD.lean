/-
  The walks of the two laws over javaIllFormedLen (3, 4) at a slice that holds something.
-/
import Derived.Test.Qxb6604322aJavaC
import Derived.Test.Qxb6604322aCopies
namespace Go.Proofs.Qxb6604322a.Java
open Go.ChangeShapes Go.WideShapes Go.ChangeAt Go.RowKit
set_option linter.unusedVariables false
set_option linter.unusedSimpArgs false

set_option maxHeartbeats 1000000 in
theorem law3 (b off len cap : Nat) (c0 : Int) (ps : List Int) (w : World) (hlen : ps.length + 1 = len) (hbig : len ≤ 1048576) (hb : b < w.heap.size) (h0 : 0 ≤ c0)
    (hcl : ∀ i, i < len → w.cell? ⟨b, off + i, none⟩ = some (.int .u8 ((c0 :: ps).getD i 0))) :
    Calls Try.prog 3 #[.slice (some ⟨b, off, none⟩) len cap] w fun e w' => e = .returned (.bool true) ∧ Below w.heap.size w w' := by
  have hne : ((len : Int) == 0) = false := by simp; omega
  have S := starts_any b off len cap (c0 :: ps) w (by simpa using hlen) hbig hb hcl
  have HC : Hid (∀ i, i < len → w.cell? ⟨b, off + i, none⟩ = some (.int .u8 ((c0 :: ps).getD i 0))) := hcl
  have HL : Hid (ps.length + 1 = len) := hlen
  clear hcl hlen
  go_enter Try.func3, Try.ntmps3
  go_wp2_with (go_at_call 8; refine (bytes8 _ _ _ _ (by unfold maxLen; omega)).mono ?_; rintro e w1 ⟨rfl, rfl⟩)
  refine S.mono ?_
  rintro e w1 ⟨rfl, hb1⟩
  cases hst : startsTo (c0 :: ps) 9
  · have HE : Hid (bestTo (c0 :: ps) 9 = jlen (c0 :: ps)) := best_is c0 ps h0 hst
    clear hst
    go_wp2_with fail
    refine (Copies.bytes_any ⟨b, off, none⟩ len cap (c0 :: ps) w1 hbig ?hcc).mono ?_
    case hcc =>
      intro i hi
      rw [add_plain, hb1.cell (p := ⟨b, off + i, none⟩) hb]
      exact HC.out i hi
    rintro e w2 ⟨rfl, hrow, hb2, hs2⟩
    have hs1 := hb1.size
    have hB2 := hb1.trans (hb2.mono hs1)
    have J := shim_any w1.heap.size 0 len len c0 ps w2 HL.out.symm hbig (fun i hi => by rw [Nat.zero_add]; exact hrow.cell hi)
    have M := best_any w1.heap.size 0 len len (c0 :: ps) w2 (by simpa using HL.out) hbig (by omega) (fun i hi => by rw [Nat.zero_add]; exact hrow.cell hi)
    clear hrow hs2
    go_wp2_with fail
    refine J.mono ?_
    rintro e w3 ⟨rfl, rfl⟩
    go_wp2_with fail
    refine M.mono ?_
    rintro e w4 ⟨rfl, hb4⟩
    rw [HE.out]
    go_wp2
    go_ret
    refine ⟨ret_bool (by simp), hB2.trans (hb4.mono (hB2.size))⟩
  · clear hst
    go_wp2
    go_ret
    exact ⟨rfl, hb1⟩

/-- A cut of the list, and what is said of it. -/
theorem cut_is (c0 : Int) (ps : List Int) (m : Nat) (h1 : jlen (c0 :: ps) ≤ m) : ∃ qs, (c0 :: ps).take m = c0 :: qs ∧ jlen (c0 :: qs) = jlen (c0 :: ps) := by
  have hp := jlen_pos c0 ps
  obtain ⟨m, rfl⟩ : ∃ j, m = j + 1 := ⟨m - 1, by omega⟩
  refine ⟨ps.take m, by simp, ?_⟩
  have := jlen_take (c0 :: ps) (m + 1) h1
  simpa using this

set_option maxHeartbeats 1000000 in
theorem shim_cut (g len N m : Nat) (c0 : Int) (ps : List Int) (w : World) (hlen : ps.length + 1 = len) (hbig : len ≤ 1048576) (hN : jlen (c0 :: ps) = N) (h1 : N ≤ m) (h2 : m ≤ len)
    (hcl : ∀ i, i < len → w.cell? ⟨g, i, none⟩ = some (.int .u8 ((c0 :: ps).getD i 0))) (cap : Nat) :
    Calls Try.prog 11 #[.slice (some ⟨g, 0, none⟩) m cap] w fun e w' => e = .returned (.int .i64 (N : Nat)) ∧ w' = w := by
  obtain ⟨qs, hq, hj⟩ := cut_is c0 ps m (by omega)
  have hl : qs.length + 1 = m := by
    have := congrArg List.length hq
    simp at this; omega
  have := shim_any g 0 m cap c0 qs w hl.symm (by omega) (fun i hi => by
    rw [Nat.zero_add, hcl i (by omega), ← hq]
    simp [List.getElem?_take, hi])
  rw [hj, hN] at this
  exact this

set_option maxHeartbeats 2000000 in
theorem law4 (b off len cap : Nat) (c0 : Int) (ps : List Int) (w : World) (hlen : ps.length + 1 = len) (hbig : len ≤ 1048576) (hb : b < w.heap.size)
    (hcl : ∀ i, i < len → w.cell? ⟨b, off + i, none⟩ = some (.int .u8 ((c0 :: ps).getD i 0))) :
    Calls Try.prog 4 #[.slice (some ⟨b, off, none⟩) len cap] w fun e w' => e = .returned (.bool true) ∧ Below w.heap.size w w' := by
  have hne : ((len : Int) == 0) = false := by simp; omega
  have S := starts_any b off len cap (c0 :: ps) w (by simpa using hlen) hbig hb hcl
  have HC : Hid (∀ i, i < len → w.cell? ⟨b, off + i, none⟩ = some (.int .u8 ((c0 :: ps).getD i 0))) := hcl
  have HL : Hid (ps.length + 1 = len) := hlen
  clear hcl hlen
  go_enter Try.func4, Try.ntmps4
  go_wp2_with (go_at_call 13; refine (bytes13 _ _ _ _ (by unfold maxLen; omega)).mono ?_; rintro e w1 ⟨rfl, rfl⟩)
  refine S.mono ?_
  rintro e w1 ⟨rfl, hb1⟩
  cases hst : startsTo (c0 :: ps) 9
  · obtain ⟨N, HN⟩ : ∃ N, Hid (jlen (c0 :: ps) = N) := ⟨_, rfl⟩
    have hN1 : 1 ≤ N := by rw [← HN.out]; exact jlen_pos c0 ps
    have hN3 : N ≤ 3 := by rw [← HN.out]; exact jlen_le3 c0 ps hst
    have hNl : N ≤ len := by
      have := jlen_le (c0 :: ps)
      simp only [List.length_cons] at this
      have := HL.out; have := HN.out; omega
    clear hst
    go_wp2_with fail
    refine (Copies.bytes_any ⟨b, off, none⟩ len cap (c0 :: ps) w1 hbig ?hcc).mono ?_
    case hcc =>
      intro i hi
      rw [add_plain, hb1.cell (p := ⟨b, off + i, none⟩) hb]
      exact HC.out i hi
    rintro e w2 ⟨rfl, hrow, hb2, hs2⟩
    have hs1 := hb1.size
    have hB2 := hb1.trans (hb2.mono hs1)
    have J := fun m h1 h2 cap => shim_cut w1.heap.size len N m c0 ps w2 HL.out hbig HN.out h1 h2 (fun i hi => hrow.cell hi) cap
    clear hs2
    go_wp2_with fail
    refine (J len hNl (Nat.le_refl _) _).mono ?_
    rintro e w3 ⟨rfl, rfl⟩
    go_wp2_with fail
    go_loop [4] (fun t => ∃ k : Nat, 1 ≤ k ∧ k ≤ N ∧ t = .int .i64 (k : Int)) (fun t => N - (intOf t).toNat)
    case atStart => exact ⟨1, by omega, by omega, rfl⟩
    case round =>
      obtain ⟨k, hk1, hkN, rfl⟩ := hrel
      by_cases hlt : k < N
      · have hmid := jlen_mid c0 ps k hk1 (by rw [HN.out]; exact hlt)
        obtain ⟨v, HV⟩ : ∃ v, Hid ((c0 :: ps).getD k 0 = v) := ⟨_, rfl⟩
        rw [HV.out] at hmid
        obtain ⟨hv1, hv2⟩ := hmid
        have hc := hrow.cell (i := k) (by omega)
        rw [HV.out] at hc
        have hkl : (k : Int) < (len : Int) := by omega
        clear J hrow
        go_wp2
        go_round
        case rel => exact ⟨k + 1, by omega, by omega, by go_num⟩
        case measure => simp [intOf]; omega
      · have hge : ¬ ((k : Int) < (N : Int)) := by omega
        have hcap : (N : Int) ≤ (len : Int) := by omega
        clear hrow
        go_wp2_with fail
        refine (J N (Nat.le_refl _) hNl _).mono ?_
        rintro e w4 ⟨rfl, rfl⟩
        by_cases hnl : N < len
        · have hnl' : (N : Int) < (len : Int) := by omega
          have hnl2 : (N : Int) + 1 ≤ (len : Int) := by omega
          go_wp2_with fail
          refine (J (N + 1) (Nat.le_succ _) hnl _).mono ?_
          rintro e w5 ⟨rfl, rfl⟩
          go_wp2
          go_ret
          exact ⟨rfl, hB2⟩
        · have hd : decide ((N : Int) < (len : Int)) = false := by simp; omega
          go_wp2
          go_ret
          exact ⟨rfl, hB2⟩
  · clear hst
    go_wp2
    go_ret
    exact ⟨rfl, hb1⟩

end Go.Proofs.Qxb6604322a.Java
