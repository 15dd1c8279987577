/-
  Plain mathematics on lists of bytes for the two laws over javaIllFormedLen. No Go here.
-/
namespace Go.Proofs.Qxb6604322a.Java

/-- How many leading numbers of the first list fall, one by one, within the ranges of the second. -/
def matched : List Int → List (Int × Int) → Nat
  | b :: p, r :: rs => if r.1 ≤ b ∧ b ≤ r.2 then matched p rs + 1 else 0
  | _, _ => 0

/-- Row i of the table, as ranges. -/
def seqRow (i : Nat) (java : Bool) : List (Int × Int) :=
  match i with
  | 0 => [(0x00, 0x7f)]
  | 1 => [(0xc2, 0xdf), (0x80, 0xbf)]
  | 2 => [(0xe0, 0xe0), (0xa0, 0xbf), (0x80, 0xbf)]
  | 3 => [(0xe1, 0xec), (0x80, 0xbf), (0x80, 0xbf)]
  | 4 => if java then [(0xed, 0xed), (0x80, 0xbf), (0x80, 0xbf)] else [(0xed, 0xed), (0x80, 0x9f), (0x80, 0xbf)]
  | 5 => [(0xee, 0xef), (0x80, 0xbf), (0x80, 0xbf)]
  | 6 => [(0xf0, 0xf0), (0x90, 0xbf), (0x80, 0xbf), (0x80, 0xbf)]
  | 7 => [(0xf1, 0xf3), (0x80, 0xbf), (0x80, 0xbf), (0x80, 0xbf)]
  | _ => [(0xf4, 0xf4), (0x80, 0x8f), (0x80, 0xbf), (0x80, 0xbf)]

/-- Does p begin with a whole sequence of one of the rows below k? -/
def startsTo (p : List Int) : Nat → Bool
  | 0 => false
  | k + 1 => startsTo p k || matched p (seqRow k false) == (seqRow k false).length

/-- The best match among the rows below k. -/
def bestTo (p : List Int) : Nat → Nat
  | 0 => 1
  | k + 1 => if bestTo p k < matched p (seqRow k true) then matched p (seqRow k true) else bestTo p k

/-- The ranges of the bytes after the lead b. -/
def trail (b : Int) : List (Int × Int) :=
  if 0xe0 ≤ b ∧ b ≤ 0xef then [(if b = 0xe0 then 0xa0 else 0x80, 0xbf), (0x80, 0xbf)]
  else if 0xf0 ≤ b ∧ b ≤ 0xf4 then [(if b = 0xf0 then 0x90 else 0x80, if b = 0xf4 then 0x8f else 0xbf), (0x80, 0xbf), (0x80, 0xbf)]
  else []

/-- What javaIllFormedLen answers. -/
def jlen : List Int → Nat
  | [] => 0
  | b :: p => matched p (trail b) + 1

theorem matched_le_left (p : List Int) (r : List (Int × Int)) : matched p r ≤ p.length := by
  induction p generalizing r with
  | nil => simp [matched]
  | cons b p ih =>
    cases r with
    | nil => simp [matched]
    | cons x r =>
      simp only [matched, List.length_cons]
      have := ih r
      split <;> omega

theorem matched_le_right (p : List Int) (r : List (Int × Int)) : matched p r ≤ r.length := by
  induction p generalizing r with
  | nil => simp [matched]
  | cons b p ih =>
    cases r with
    | nil => simp [matched]
    | cons x r =>
      simp only [matched, List.length_cons]
      have := ih r
      split <;> omega

theorem matched_take (p : List Int) (r : List (Int × Int)) (k : Nat) (h : matched p r ≤ k) : matched (p.take k) r = matched p r := by
  induction p generalizing r k with
  | nil => simp
  | cons b p ih =>
    cases r with
    | nil => cases k <;> simp [matched]
    | cons x r =>
      simp only [matched] at h ⊢
      by_cases c : x.1 ≤ b ∧ b ≤ x.2
      · rw [if_pos c] at h ⊢
        obtain ⟨k, rfl⟩ : ∃ j, k = j + 1 := ⟨k - 1, by omega⟩
        simp only [List.take_succ_cons, matched]
        rw [if_pos c, ih r k (by omega)]
      · rw [if_neg c]
        cases k with
        | zero => simp [matched]
        | succ k => simp only [List.take_succ_cons, matched]; rw [if_neg c]

/-- The numbers that were matched lie in their ranges. -/
theorem matched_in (p : List Int) (r : List (Int × Int)) (k : Nat) (h : k < matched p r) : (r.getD k (0, 0)).1 ≤ p.getD k 0 ∧ p.getD k 0 ≤ (r.getD k (0, 0)).2 := by
  induction p generalizing r k with
  | nil => simp [matched] at h
  | cons b p ih =>
    cases r with
    | nil => simp [matched] at h
    | cons x r =>
      simp only [matched] at h
      by_cases c : x.1 ≤ b ∧ b ≤ x.2
      · rw [if_pos c] at h
        cases k with
        | zero => simpa using c
        | succ k => simpa using ih r k (by omega)
      · rw [if_neg c] at h; omega

/-- One step more of a match. -/
theorem matched_step (p : List Int) (r : List (Int × Int)) (k : Nat) (h : k ≤ matched p r) (hp : k < p.length) (hr : k < r.length)
    (c : (r.getD k (0, 0)).1 ≤ p.getD k 0 ∧ p.getD k 0 ≤ (r.getD k (0, 0)).2) : k + 1 ≤ matched p r := by
  induction p generalizing r k with
  | nil => simp at hp
  | cons b p ih =>
    cases r with
    | nil => simp at hr
    | cons x r =>
      simp only [matched] at h ⊢
      cases k with
      | zero => simp at c; rw [if_pos c]; omega
      | succ k =>
        by_cases d : x.1 ≤ b ∧ b ≤ x.2
        · rw [if_pos d] at h ⊢
          have := ih r k (by omega) (by simpa using hp) (by simpa using hr) (by simpa using c)
          omega
        · rw [if_neg d] at h; omega

/-- The match ends here. -/
theorem matched_stop (p : List Int) (r : List (Int × Int)) (k : Nat) (h : k ≤ matched p r)
    (c : p.length ≤ k ∨ r.length ≤ k ∨ ¬ ((r.getD k (0, 0)).1 ≤ p.getD k 0 ∧ p.getD k 0 ≤ (r.getD k (0, 0)).2)) : matched p r = k := by
  have h1 := matched_le_left p r
  have h2 := matched_le_right p r
  rcases c with c | c | c
  · omega
  · omega
  · by_cases e : k < matched p r
    · exact absurd (matched_in p r k e) c
    · omega

theorem trail_mid (b : Int) (k : Nat) (h : k < (trail b).length) : 0x80 ≤ ((trail b).getD k (0, 0)).1 ∧ ((trail b).getD k (0, 0)).2 ≤ 0xbf := by
  revert h
  unfold trail
  split
  · intro h
    match k, h with
    | 0, _ => simp; split <;> omega
    | 1, _ => simp
  · split
    · intro h
      match k, h with
      | 0, _ => simp; exact ⟨by split <;> omega, by split <;> omega⟩
      | 1, _ => simp
      | 2, _ => simp
    · intro h; simp at h

/-- A greatest match, by its three marks. -/
theorem best_eq (p : List Int) (k M : Nat) (h1 : 1 ≤ M) (hle : ∀ i, i < k → matched p (seqRow i true) ≤ M) (hex : M = 1 ∨ ∃ i, i < k ∧ matched p (seqRow i true) = M) : bestTo p k = M := by
  have low : ∀ k, (∀ i, i < k → matched p (seqRow i true) ≤ M) → bestTo p k ≤ M := by
    intro k
    induction k with
    | zero => intro _; simpa [bestTo] using h1
    | succ k ih =>
      intro h
      have a := ih (fun i hi => h i (by omega))
      have b := h k (by omega)
      simp only [bestTo]
      split <;> omega
  have one : ∀ k, 1 ≤ bestTo p k := by
    intro k
    induction k with
    | zero => simp [bestTo]
    | succ k ih => simp only [bestTo]; split <;> omega
  have up : ∀ k i, i < k → matched p (seqRow i true) ≤ bestTo p k := by
    intro k
    induction k with
    | zero => intro i hi; omega
    | succ k ih =>
      intro i hi
      simp only [bestTo]
      by_cases e : i = k
      · subst e; split <;> omega
      · have := ih i (by omega); split <;> omega
  have a := low k hle
  have b := one k
  rcases hex with c | ⟨i, hi, c⟩
  · omega
  · have := up k i hi; omega

theorem starts_no (p : List Int) (k i : Nat) (h : startsTo p k = false) (hi : i < k) : matched p (seqRow i false) ≠ (seqRow i false).length := by
  induction k with
  | zero => omega
  | succ k ih =>
    simp only [startsTo, Bool.or_eq_false_iff, beq_eq_false_iff_ne] at h
    by_cases e : i = k
    · subst e; exact h.2
    · exact ih h.1 (by omega)

theorem trail_e (b : Int) (h : 0xe1 ≤ b ∧ b ≤ 0xef) : trail b = [(0x80, 0xbf), (0x80, 0xbf)] := by
  unfold trail; rw [if_pos (by omega), if_neg (by omega)]
theorem trail_e0 (b : Int) (h : b = 0xe0) : trail b = [(0xa0, 0xbf), (0x80, 0xbf)] := by
  unfold trail; rw [if_pos (by omega), if_pos h]
theorem trail_f (b : Int) (h : 0xf1 ≤ b ∧ b ≤ 0xf3) : trail b = [(0x80, 0xbf), (0x80, 0xbf), (0x80, 0xbf)] := by
  unfold trail; rw [if_neg (by omega), if_pos (by omega), if_neg (by omega), if_neg (by omega)]
theorem trail_f0 (b : Int) (h : b = 0xf0) : trail b = [(0x90, 0xbf), (0x80, 0xbf), (0x80, 0xbf)] := by
  unfold trail; rw [if_neg (by omega), if_pos (by omega), if_pos h, if_neg (by omega)]
theorem trail_f4 (b : Int) (h : b = 0xf4) : trail b = [(0x80, 0x8f), (0x80, 0xbf), (0x80, 0xbf)] := by
  unfold trail; rw [if_neg (by omega), if_pos (by omega), if_neg (by omega), if_pos h]
theorem trail_no (b : Int) (h : ¬ (0xe0 ≤ b ∧ b ≤ 0xf4)) : trail b = [] := by
  unfold trail; rw [if_neg (by omega), if_neg (by omega)]

theorem matched_cons (b : Int) (p : List Int) (x : Int × Int) (r : List (Int × Int)) : matched (b :: p) (x :: r) = if x.1 ≤ b ∧ b ≤ x.2 then matched p r + 1 else 0 := rfl

/-- THE FIRST LAW. -/
theorem best_is (b : Int) (p : List Int) (_h0 : 0 ≤ b) (hs : startsTo (b :: p) 9 = false) : bestTo (b :: p) 9 = jlen (b :: p) := by
  refine best_eq _ _ _ (by simp [jlen]) ?_ ?_
  · intro i hi
    simp only [jlen]
    match i, hi with
    | 0, _ =>
      have n0 := starts_no _ _ 0 hs (by omega)
      simp only [seqRow, matched_cons, List.length_cons, List.length_nil] at n0 ⊢
      have m0 : matched p [] = 0 := by cases p <;> rfl
      rw [m0] at n0 ⊢; split <;> omega
    | 1, _ =>
      have n0 := starts_no _ _ 1 hs (by omega)
      have l := matched_le_right p [(0x80, 0xbf)]
      simp only [seqRow, matched_cons, List.length_cons, List.length_nil] at n0 l ⊢
      by_cases c : 0xc2 ≤ b ∧ b ≤ 0xdf
      · rw [if_pos c] at n0 ⊢; omega
      · rw [if_neg c]; omega
    | 2, _ => simp only [seqRow, matched_cons]; split; (rw [trail_e0 b (by omega)]; exact Nat.le_refl _); omega
    | 3, _ => simp only [seqRow, matched_cons]; split; (rw [trail_e b (by omega)]; exact Nat.le_refl _); omega
    | 4, _ => simp only [seqRow, matched_cons, if_true]; split; (rw [trail_e b (by omega)]; exact Nat.le_refl _); omega
    | 5, _ => simp only [seqRow, matched_cons]; split; (rw [trail_e b (by omega)]; exact Nat.le_refl _); omega
    | 6, _ => simp only [seqRow, matched_cons]; split; (rw [trail_f0 b (by omega)]; exact Nat.le_refl _); omega
    | 7, _ => simp only [seqRow, matched_cons]; split; (rw [trail_f b (by omega)]; exact Nat.le_refl _); omega
    | 8, _ => simp only [seqRow, matched_cons]; split; (rw [trail_f4 b (by omega)]; exact Nat.le_refl _); omega
  · simp only [jlen]
    by_cases c : 0xe0 ≤ b ∧ b ≤ 0xf4
    · right
      by_cases c0 : b = 0xe0
      · exact ⟨2, by omega, by simp only [seqRow, matched_cons]; rw [if_pos (by omega), trail_e0 b c0]⟩
      by_cases c1 : b ≤ 0xec
      · exact ⟨3, by omega, by simp only [seqRow, matched_cons]; rw [if_pos (by omega), trail_e b (by omega)]⟩
      by_cases c2 : b ≤ 0xed
      · exact ⟨4, by omega, by simp only [seqRow, matched_cons, if_true]; rw [if_pos (by omega), trail_e b (by omega)]⟩
      by_cases c3 : b ≤ 0xef
      · exact ⟨5, by omega, by simp only [seqRow, matched_cons]; rw [if_pos (by omega), trail_e b (by omega)]⟩
      by_cases c4 : b = 0xf0
      · exact ⟨6, by omega, by simp only [seqRow, matched_cons]; rw [if_pos (by omega), trail_f0 b c4]⟩
      by_cases c5 : b = 0xf4
      · exact ⟨8, by omega, by simp only [seqRow, matched_cons]; rw [if_pos (by omega), trail_f4 b c5]⟩
      · exact ⟨7, by omega, by simp only [seqRow, matched_cons]; rw [if_pos (by omega), trail_f b (by omega)]⟩
    · left
      rw [trail_no b c]
      cases p <;> rfl

/-- THE SECOND LAW's parts. -/
theorem jlen_pos (b : Int) (p : List Int) : 1 ≤ jlen (b :: p) := by simp [jlen]

theorem jlen_le (p : List Int) : jlen p ≤ p.length := by
  cases p with
  | nil => simp [jlen]
  | cons b p => have := matched_le_left p (trail b); simp only [jlen, List.length_cons]; omega

theorem jlen_le3 (b : Int) (p : List Int) (hs : startsTo (b :: p) 9 = false) : jlen (b :: p) ≤ 3 := by
  have l := matched_le_right p (trail b)
  simp only [jlen]
  by_cases c0 : b = 0xf0
  · have n0 := starts_no _ _ 6 hs (by omega)
    simp only [seqRow, matched_cons, List.length_cons, List.length_nil] at n0
    rw [if_pos (by omega)] at n0
    rw [trail_f0 b c0] at l ⊢
    simp only [List.length_cons, List.length_nil] at l
    omega
  by_cases c1 : 0xf1 ≤ b ∧ b ≤ 0xf3
  · have n0 := starts_no _ _ 7 hs (by omega)
    simp only [seqRow, matched_cons, List.length_cons, List.length_nil] at n0
    rw [if_pos (by omega)] at n0
    rw [trail_f b c1] at l ⊢
    simp only [List.length_cons, List.length_nil] at l
    omega
  by_cases c2 : b = 0xf4
  · have n0 := starts_no _ _ 8 hs (by omega)
    simp only [seqRow, matched_cons, List.length_cons, List.length_nil] at n0
    rw [if_pos (by omega)] at n0
    rw [trail_f4 b c2] at l ⊢
    simp only [List.length_cons, List.length_nil] at l
    omega
  · have t : (trail b).length ≤ 2 := by
      unfold trail; split
      · simp
      · rw [if_neg (by omega)]; simp
    omega

theorem jlen_mid (b : Int) (p : List Int) (k : Nat) (h1 : 1 ≤ k) (h2 : k < jlen (b :: p)) : 0x80 ≤ (b :: p).getD k 0 ∧ (b :: p).getD k 0 ≤ 0xbf := by
  obtain ⟨k, rfl⟩ : ∃ j, k = j + 1 := ⟨k - 1, by omega⟩
  simp only [jlen] at h2
  have h := matched_in p (trail b) k (by omega)
  have l := matched_le_right p (trail b)
  have m := trail_mid b k (by omega)
  simp only [List.getD_cons_succ]
  omega

theorem jlen_take (p : List Int) (k : Nat) (h : jlen p ≤ k) : jlen (p.take k) = jlen p := by
  cases p with
  | nil => simp
  | cons b p =>
    simp only [jlen] at h
    obtain ⟨k, rfl⟩ : ∃ j, k = j + 1 := ⟨k - 1, by omega⟩
    simp only [List.take_succ_cons, jlen]
    rw [matched_take p (trail b) k (by omega)]

end Go.Proofs.Qxb6604322a.Java
