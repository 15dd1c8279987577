/-
  Plain mathematics for the law over bitset.remove. No Go here.
-/
namespace Go.Proofs.Qxb6603844a.Bit
set_option linter.unusedSimpArgs false
set_option linter.unusedVariables false

/-- Bit t of x. -/
def tb (x : Int) (t : Nat) : Bool := x.toNat.testBit t
/-- Bit j of the row of words. -/
def bitB (ws : List Int) (j : Nat) : Bool := if j / 64 < ws.length then tb (ws.getD (j / 64) 0) (j % 64) else false
/-- x with bit c cleared. -/
def clr (x : Int) (c : Nat) : Int := ((x.toNat &&& (18446744073709551615 - 2 ^ c) : Nat) : Int)
/-- A word, 64 bits. -/
def Wd (x : Int) : Prop := 0 ≤ x ∧ x ≤ 18446744073709551615
def Wds (ws : List Int) : Prop := ∀ i, i < ws.length → Wd (ws.getD i 0)
/-- The invariant. -/
def WF (ws nz : List Int) : Prop := ws.length ≤ 64 * nz.length ∧ ∀ m, m < 64 * nz.length → bitB nz m = (decide (m < ws.length) && decide (ws.getD m 0 ≠ 0))

theorem tb_clr (x : Int) (c t : Nat) (hx : Wd x) (hc : c < 64) : tb (clr x c) t = (tb x t && decide (t ≠ c)) := by
  unfold tb clr
  rw [Int.toNat_natCast, Nat.testBit_and]
  have h2 : 2 ^ c < 2 ^ 64 := Nat.pow_lt_pow_right (by decide) hc
  have e : (18446744073709551615 - 2 ^ c : Nat) = 2 ^ 64 - (2 ^ c + 1) := by omega
  rw [e, Nat.testBit_two_pow_sub_succ h2]
  rw [Nat.testBit_two_pow]
  by_cases ht : t < 64
  · by_cases e2 : c = t
    · subst e2; simp
    · have : t ≠ c := fun h => e2 h.symm
      simp [ht, e2, this]
  · have hxl : x.toNat < 2 ^ t := by
      have h1 : x.toNat < 2 ^ 64 := by have := hx.2; have := hx.1; omega
      exact Nat.lt_of_lt_of_le h1 (Nat.pow_le_pow_right (by decide) (by omega))
    rw [Nat.testBit_lt_two_pow hxl]
    simp

theorem wd_clr (x : Int) (c : Nat) (hx : Wd x) : Wd (clr x c) := by
  unfold clr Wd
  have h : x.toNat &&& (18446744073709551615 - 2 ^ c) ≤ x.toNat := Nat.and_le_left
  have h1 := hx.1
  have h2 := hx.2
  constructor <;> omega

/-- A word is not zero just where one of its bits is set. -/
theorem word_ne (x : Int) (hx : Wd x) : x ≠ 0 ↔ ∃ t, t < 64 ∧ tb x t = true := by
  unfold tb
  have h1 := hx.1
  have h2 := hx.2
  constructor
  · intro h
    have hn : x.toNat ≠ 0 := by omega
    obtain ⟨t, ht⟩ := Nat.exists_testBit_of_ne_zero hn
    refine ⟨t, ?_, ht⟩
    rcases Nat.lt_or_ge t 64 with h | h
    · exact h
    · have hxl : x.toNat < 2 ^ t := Nat.lt_of_lt_of_le (by omega : x.toNat < 2 ^ 64) (Nat.pow_le_pow_right (by decide) h)
      rw [Nat.testBit_lt_two_pow hxl] at ht
      cases ht
  · rintro ⟨t, _, ht⟩ e
    rw [e] at ht
    simp at ht

section
variable (ws nz : List Int) (i : Nat)

/-- What remove makes of the words. -/
def w2 : List Int := ws.set (i / 64) (clr (ws.getD (i / 64) 0) (i % 64))
/-- .. and of the marks. -/
def n2 : List Int := if clr (ws.getD (i / 64) 0) (i % 64) = 0 then nz.set (i / 64 / 64) (clr (nz.getD (i / 64 / 64) 0) (i / 64 % 64)) else nz

theorem w2_len : (w2 ws i).length = ws.length := by simp [w2]
theorem n2_len : (n2 ws nz i).length = nz.length := by unfold n2; split <;> simp

theorem getD_set (l : List Int) (k m : Nat) (x : Int) (hk : k < l.length) : (l.set k x).getD m 0 = if m = k then x else l.getD m 0 := by
  by_cases e : m = k
  · subst e; simp [hk]
  · rw [if_neg e]
    simp [Ne.symm e]

theorem w2_get (hk : i / 64 < ws.length) (m : Nat) : (w2 ws i).getD m 0 = if m = i / 64 then clr (ws.getD (i / 64) 0) (i % 64) else ws.getD m 0 := getD_set _ _ _ _ hk

theorem wds_w2 (hw : Wds ws) : Wds (w2 ws i) := by
  intro m hm
  rw [w2_len] at hm
  unfold w2
  by_cases hk : i / 64 < ws.length
  · rw [getD_set _ _ _ _ hk]
    split
    · exact wd_clr _ _ (hw _ hk)
    · exact hw m hm
  · rw [List.set_eq_of_length_le (by omega)]; exact hw m hm

theorem wds_n2 (hn : Wds nz) : Wds (n2 ws nz i) := by
  unfold n2
  split
  · intro m hm
    rw [List.length_set] at hm
    by_cases hk : i / 64 / 64 < nz.length
    · rw [getD_set _ _ _ _ hk]
      split
      · exact wd_clr _ _ (hn _ hk)
      · exact hn m hm
    · rw [List.set_eq_of_length_le (by omega)]; exact hn m hm
  · exact hn

/-- THE MEMBERS. -/
theorem w2_bit (hw : Wds ws) (hk : i / 64 < ws.length) (j : Nat) : bitB (w2 ws i) j = (bitB ws j && decide (j ≠ i)) := by
  unfold bitB
  rw [w2_len]
  by_cases hj : j / 64 < ws.length
  · rw [if_pos hj, if_pos hj, w2_get ws i hk]
    by_cases e : j / 64 = i / 64
    · rw [if_pos e, tb_clr _ _ _ (hw _ hk) (Nat.mod_lt _ (by decide)), e]
      congr 1
      have : (j % 64 ≠ i % 64) ↔ j ≠ i := by omega
      simp only [this]
    · rw [if_neg e]
      have : j ≠ i := fun h => e (by rw [h])
      simp [this]
  · rw [if_neg hj, if_neg hj]; simp

theorem want_is (hw : Wds ws) (hk : i / 64 < ws.length) (m : Nat) (hm : m < ws.length) : (∃ t, t < 64 ∧ 64 * m + t ≠ i ∧ bitB ws (64 * m + t) = true) ↔ (w2 ws i).getD m 0 ≠ 0 := by
  rw [word_ne _ (wds_w2 ws i hw m (by rw [w2_len]; exact hm))]
  have key : ∀ t, t < 64 → (tb ((w2 ws i).getD m 0) t = true ↔ 64 * m + t ≠ i ∧ bitB ws (64 * m + t) = true) := by
    intro t ht
    have h1 := w2_bit ws i hw hk (64 * m + t)
    have hd : (64 * m + t) / 64 = m := by omega
    have hr : (64 * m + t) % 64 = t := by omega
    have h2 : bitB (w2 ws i) (64 * m + t) = tb ((w2 ws i).getD m 0) t := by
      unfold bitB; rw [w2_len, hd, hr, if_pos hm]
    rw [← h2, h1]
    simp [and_comm]
  constructor
  · rintro ⟨t, ht, h⟩; exact ⟨t, ht, (key t ht).2 h⟩
  · rintro ⟨t, ht, h⟩; exact ⟨t, ht, (key t ht).1 h⟩

/-- THE MARKS. -/
theorem n2_bit (hw : Wds ws) (hn : Wds nz) (hwf : WF ws nz) (hk : i / 64 < ws.length) (m : Nat) (hm : m < 64 * nz.length) : bitB (n2 ws nz i) m = (decide (m < ws.length) && decide ((w2 ws i).getD m 0 ≠ 0)) := by
  have h0 := hwf.2 m hm
  have hkk : i / 64 / 64 < nz.length := by have := hwf.1; omega
  have hmm : m / 64 < nz.length := by omega
  rw [w2_get ws i hk]
  unfold n2
  by_cases hz : clr (ws.getD (i / 64) 0) (i % 64) = 0
  · rw [if_pos hz]
    unfold bitB at h0 ⊢
    rw [List.length_set, if_pos hmm]
    rw [if_pos hmm] at h0
    rw [getD_set _ _ _ _ hkk]
    by_cases e : m = i / 64
    · have e1 : m / 64 = i / 64 / 64 := by rw [e]
      rw [if_pos e1, if_pos e, tb_clr _ _ _ (hn _ hkk) (Nat.mod_lt _ (by decide)), e, hz]
      simp
    · rw [if_neg e, ← h0]
      by_cases e1 : m / 64 = i / 64 / 64
      · rw [if_pos e1, tb_clr _ _ _ (hn _ hkk) (Nat.mod_lt _ (by decide)), e1]
        have : m % 64 ≠ i / 64 % 64 := by omega
        simp [this]
      · rw [if_neg e1]
  · rw [if_neg hz, h0]
    by_cases e : m = i / 64
    · rw [if_pos e]
      have hne : ws.getD (i / 64) 0 ≠ 0 := by
        intro h
        rw [h] at hz
        exact hz (by simp [clr])
      rw [e, decide_eq_true hne, decide_eq_true hz]
    · rw [if_neg e]

theorem wf2 (hw : Wds ws) (hn : Wds nz) (hwf : WF ws nz) (hk : i / 64 < ws.length) : WF (w2 ws i) (n2 ws nz i) := by
  refine ⟨by rw [w2_len, n2_len]; exact hwf.1, fun m hm => ?_⟩
  rw [n2_len] at hm
  rw [w2_len]
  exact n2_bit ws nz i hw hn hwf hk m hm
end

end Go.Proofs.Qxb6603844a.Bit
