/-
  Plain facts on merging, pass by pass.
-/
import Derived.Test.Qxb6605226aViewI
namespace Go.Proofs.Qxb6605226a.View
open Go.ChangeShapes Go.WideShapes Go.ChangeAt Go.RowKit Mem
set_option linter.unusedVariables false
set_option linter.unusedSimpArgs false

def leB (x y : Int) : Bool := decide (x ≤ y)

def segN (X : Nat → Int) (s : Nat) : Nat → List Int
  | 0 => []
  | m + 1 => X s :: segN X (s + 1) m
/-- The values of X from s up to e. -/
def seg (X : Nat → Int) (s e : Nat) : List Int := segN X s (e - s)

theorem segN_add (X : Nat → Int) (s m l : Nat) : segN X s (m + l) = segN X s m ++ segN X (s + m) l := by
  induction m generalizing s with
  | zero => simp [segN]
  | succ m ih =>
    rw [show m + 1 + l = (m + l) + 1 from by omega, segN, ih, segN, show s + 1 + m = s + (m + 1) from by omega]
    rfl
theorem segN_congr {X Y : Nat → Int} {s m : Nat} (h : ∀ q, s ≤ q → q < s + m → X q = Y q) : segN X s m = segN Y s m := by
  induction m generalizing s with
  | zero => rfl
  | succ m ih => rw [segN, segN, h s (by omega) (by omega), ih (fun q h1 h2 => h q (by omega) (by omega))]
theorem segN_len (X : Nat → Int) (s m : Nat) : (segN X s m).length = m := by
  induction m generalizing s with
  | zero => rfl
  | succ m ih => rw [segN, List.length_cons, ih]
theorem segN_at (X : Nat → Int) (s m i : Nat) (h : i < m) : (segN X s m).getD i 0 = X (s + i) := by
  induction m generalizing s i with
  | zero => omega
  | succ m ih =>
    cases i with
    | zero => rfl
    | succ i =>
      have := ih (s + 1) i (by omega)
      rw [show s + 1 + i = s + (i + 1) from by omega] at this
      exact this

theorem seg_cons {X : Nat → Int} {i e : Nat} (h : i < e) : seg X i e = X i :: seg X (i + 1) e := by
  unfold seg
  rw [show e - i = (e - (i + 1)) + 1 from by omega, segN]
theorem seg_nil {X : Nat → Int} {i e : Nat} (h : e ≤ i) : seg X i e = [] := by
  unfold seg
  rw [show e - i = 0 from by omega, segN]
theorem seg_app {X : Nat → Int} {s m e : Nat} (h1 : s ≤ m) (h2 : m ≤ e) : seg X s e = seg X s m ++ seg X m e := by
  unfold seg
  rw [show e - s = (m - s) + (e - m) from by omega, segN_add, show s + (m - s) = m from by omega]
theorem seg_snoc {X : Nat → Int} {s k : Nat} (h : s ≤ k) : seg X s (k + 1) = seg X s k ++ [X k] := by
  rw [seg_app (m := k) h (by omega), seg_cons (show k < k + 1 by omega), seg_nil (Nat.le_refl _)]
theorem seg_congr {X Y : Nat → Int} {s e : Nat} (h : ∀ q, s ≤ q → q < e → X q = Y q) : seg X s e = seg Y s e :=
  segN_congr (fun q h1 h2 => h q h1 (by omega))
theorem seg_len (X : Nat → Int) (s e : Nat) : (seg X s e).length = e - s := segN_len X s _
theorem seg_list (zs : List Int) : seg (fun i => zs.getD i 0) 0 zs.length = zs := by
  refine List.ext_getElem (by rw [seg_len]; omega) (fun i h1 h2 => ?_)
  have e := segN_at (fun i => zs.getD i 0) 0 (zs.length - 0) i (by omega)
  have e1 : (seg (fun i => zs.getD i 0) 0 zs.length).getD i 0 = (seg (fun i => zs.getD i 0) 0 zs.length)[i] := by rw [List.getD_eq_getElem?_getD, List.getElem?_eq_getElem h1]; rfl
  rw [← e1]
  unfold seg
  rw [e]
  simp [h2]

/-- Y with v at place k. -/
def upd (Y : Nat → Int) (k : Nat) (v : Int) : Nat → Int := fun q => if q = k then v else Y q

theorem seg_upd {Y : Nat → Int} {s k : Nat} {v : Int} (h : s ≤ k) : seg (upd Y k v) s (k + 1) = seg Y s k ++ [v] := by
  rw [seg_snoc h, seg_congr (Y := Y) (fun q _ h2 => by unfold upd; rw [if_neg (by omega)])]
  congr 1
  unfold upd
  rw [if_pos rfl]

/-- What holds while two runs are merged. -/
def MI (X Y : Nat → Int) (lo mid hi i j k : Nat) (M : List Int) : Prop := seg Y lo k ++ (seg X i mid).merge (seg X j hi) leB = M

theorem MI.right {X Y : Nat → Int} {lo mid hi i j k : Nat} {M : List Int} (h : MI X Y lo mid hi i j k M) (hk : lo ≤ k) (hi' : i < mid) (hj : j < hi) (hx : X j < X i) : MI X (upd Y k (X j)) lo mid hi i (j + 1) (k + 1) M := by
  unfold MI at *
  rw [seg_cons hi', seg_cons hj, List.cons_merge_cons, if_neg (by simp [leB]; omega)] at h
  rw [seg_upd hk, ← h, seg_cons hi', List.append_assoc]
  rfl
theorem MI.left {X Y : Nat → Int} {lo mid hi i j k : Nat} {M : List Int} (h : MI X Y lo mid hi i j k M) (hk : lo ≤ k) (hi' : i < mid) (hj : j < hi) (hx : ¬ X j < X i) : MI X (upd Y k (X i)) lo mid hi (i + 1) j (k + 1) M := by
  unfold MI at *
  rw [seg_cons hi', seg_cons hj, List.cons_merge_cons, if_pos (by simp [leB]; omega)] at h
  rw [seg_upd hk, ← h, seg_cons hj, List.append_assoc]
  rfl
theorem MI.restLeft {X Y : Nat → Int} {lo mid hi i j k : Nat} {M : List Int} (h : MI X Y lo mid hi i j k M) (hk : lo ≤ k) (hi' : i < mid) (hj : hi ≤ j) : MI X (upd Y k (X i)) lo mid hi (i + 1) j (k + 1) M := by
  unfold MI at *
  rw [seg_nil hj, List.merge_right, seg_cons hi'] at h
  rw [seg_upd hk, ← h, seg_nil hj, List.merge_right, List.append_assoc]
  rfl
theorem MI.restRight {X Y : Nat → Int} {lo mid hi i j k : Nat} {M : List Int} (h : MI X Y lo mid hi i j k M) (hk : lo ≤ k) (hi' : mid ≤ i) (hj : j < hi) : MI X (upd Y k (X j)) lo mid hi i (j + 1) (k + 1) M := by
  unfold MI at *
  rw [seg_nil hi', List.nil_merge, seg_cons hj] at h
  rw [seg_upd hk, ← h, seg_nil hi', List.nil_merge, List.append_assoc]
  rfl
theorem MI.done {X Y : Nat → Int} {lo mid hi i j k : Nat} {M : List Int} (h : MI X Y lo mid hi i j k M) (hi' : mid ≤ i) (hj : hi ≤ j) : seg Y lo k = M := by
  unfold MI at h
  rw [seg_nil hi', seg_nil hj] at h
  simpa using h

def PW (xs : List Int) : Prop := xs.Pairwise (fun x y => leB x y = true)

theorem pw_merge {xs ys : List Int} (h1 : PW xs) (h2 : PW ys) : PW (xs.merge ys leB) :=
  List.pairwise_merge (fun a b c h1 h2 => by simp [leB] at h1 h2 ⊢; omega) (fun a b => by simp [leB]; omega) _ _ h1 h2

/-- The runs of w values ascend. -/
def CS (w n : Nat) (X : Nat → Int) : Prop := ∀ t, PW (seg X (t * w) (min ((t + 1) * w) n))

theorem cs_one (n : Nat) (X : Nat → Int) : CS 1 n X := fun t => by
  by_cases h : t * 1 < n
  · rw [seg_cons (by omega), seg_nil (by omega)]
    unfold PW
    simp
  · rw [seg_nil (by omega)]
    unfold PW
    simp

theorem cs_end {w n : Nat} {X : Nat → Int} (h : CS w n X) (hw : n ≤ w) : PW (seg X 0 n) := by
  have := h 0
  rw [Nat.zero_mul, show min ((0 + 1) * w) n = n from by omega] at this
  exact this

/-- What holds behind T merges of a pass. -/
def Done (T w n : Nat) (X Y : Nat → Int) : Prop :=
  (∀ t, t < T → PW (seg Y (t * (2 * w)) (min ((t + 1) * (2 * w)) n))) ∧ (seg Y 0 (min (T * (2 * w)) n)).Perm (seg X 0 (min (T * (2 * w)) n))

theorem done_zero (w n : Nat) (X Y : Nat → Int) : Done 0 w n X Y :=
  ⟨fun t ht => by omega, by rw [Nat.zero_mul, seg_nil (by omega), seg_nil (by omega)]⟩

theorem done_step {T w n lo mid hi : Nat} {X Y Y' : Nat → Int} (h : Done T w n X Y) (hc : CS w n X) (hlo : lo = T * (2 * w)) (hln : lo < n) (hmid : mid = min (lo + w) n) (hhi : hi = min (lo + 2 * w) n)
    (h1 : ∀ q, q < lo → Y' q = Y q) (h2 : seg Y' lo hi = (seg X lo mid).merge (seg X mid hi) leB) : Done (T + 1) w n X Y' := by
  have e1 : (T + 1) * (2 * w) = lo + 2 * w := by rw [Nat.succ_mul, hlo]
  have a1 : T * 2 * w = lo := by rw [hlo, Nat.mul_assoc]
  have a2 : (T * 2 + 1) * w = lo + w := by rw [Nat.succ_mul, a1]
  have a3 : (T * 2 + 1 + 1) * w = lo + w + w := by rw [Nat.succ_mul, a2]
  have p1 : PW (seg X lo mid) := by
    have := hc (T * 2)
    rw [a1, a2] at this
    rw [hmid]; exact this
  have p2 : PW (seg X mid hi) := by
    by_cases e : lo + w ≤ n
    · have := hc (T * 2 + 1)
      rw [a2, a3, show lo + w + w = lo + 2 * w from by omega] at this
      rw [hmid, hhi, show min (lo + w) n = lo + w from by omega]; exact this
    · rw [seg_nil (by omega)]
      unfold PW
      simp
  have c0 : seg Y' 0 lo = seg Y 0 lo := seg_congr (fun q _ hq => h1 q hq)
  refine ⟨fun t ht => ?_, ?_⟩
  · by_cases e : t = T
    · subst e
      rw [e1, ← hlo, ← hhi, h2]
      exact pw_merge p1 p2
    · have e2 : (t + 1) * (2 * w) ≤ T * (2 * w) := Nat.mul_le_mul_right _ (by omega)
      rw [seg_congr (Y := Y) (fun q _ hq => h1 q (by omega))]
      exact h.1 t (by omega)
  · have hp := h.2
    rw [← hlo, show min lo n = lo from by omega] at hp
    rw [e1, ← hhi, seg_app (m := lo) (by omega) (by omega), c0, h2, seg_app (X := X) (s := 0) (m := lo) (e := hi) (by omega) (by omega)]
    refine hp.append ?_
    rw [seg_app (X := X) (s := lo) (m := mid) (e := hi) (by omega) (by omega)]
    exact List.merge_perm_append leB

theorem done_end {T w n : Nat} {X Y : Nat → Int} (h : Done T w n X Y) (hT : n ≤ T * (2 * w)) : CS (2 * w) n Y ∧ (seg Y 0 n).Perm (seg X 0 n) := by
  refine ⟨fun t => ?_, ?_⟩
  · by_cases e : t < T
    · exact h.1 t e
    · have e2 : T * (2 * w) ≤ t * (2 * w) := Nat.mul_le_mul_right _ (by omega)
      rw [seg_nil (by omega)]
      unfold PW
      simp
  · have := h.2
    rw [show min (T * (2 * w)) n = n from by omega] at this
    exact this

theorem sorted_seg {n : Nat} {X : Nat → Int} {zs : List Int} (h1 : PW (seg X 0 n)) (h2 : (seg X 0 n).Perm zs) : seg X 0 n = sorted zs := sorted_unique h1 h2

end Go.Proofs.Qxb6605226a.View
