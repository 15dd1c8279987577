/-
  zzBytes (14), zzLeafFits (34), zzAscending64 (35): the walks.
-/
import Derived.Test.Qxb6604322aTreeB
namespace Go.Proofs.Qxb6604322a.Tree
open Go.ChangeShapes Go.WideShapes Go.ChangeAt Go.RowKit Mem
set_option linter.unusedVariables false
set_option linter.unusedSimpArgs false

/-- The world in which these arrays lie in blocks of their own, one after another. -/
def boxAll (w : World) : List (Array Value × TypeId) → World
  | [] => w
  | (A, t) :: bs => boxAll (w.alloc (.cells A t)) bs

theorem boxAll_size (bs : List (Array Value × TypeId)) (w : World) : (boxAll w bs).heap.size = w.heap.size + bs.length := by
  induction bs generalizing w with
  | nil => rfl
  | cons b bs ih => rw [boxAll, ih]; simp; omega

theorem boxAll_grown (bs : List (Array Value × TypeId)) (w : World) : w.grownBy (boxAll w bs) none := by
  induction bs generalizing w with
  | nil => exact ⟨rfl, rfl, rfl, Nat.le_refl _, fun _ _ _ => rfl⟩
  | cons b bs ih =>
    have h1 := grown_none_alloc w (.cells b.1 b.2)
    have h2 := ih (w.alloc (.cells b.1 b.2))
    exact h1.trans h2

theorem boxAll_below (bs : List (Array Value × TypeId)) (w : World) : Below w.heap.size w (boxAll w bs) := by
  suffices h : ∀ (bs : List (Array Value × TypeId)) (w w' : World), Below w.heap.size w w' → w.heap.size ≤ w'.heap.size → Below w.heap.size w (boxAll w' bs) from h bs w w (Below.refl _ _) (Nat.le_refl _)
  intro bs
  induction bs with
  | nil => intro w w' h _; exact h
  | cons b bs ih => intro w w' h hl; exact ih w _ (h.alloc hl _) (by simp; omega)

theorem boxAll_cell (bs : List (Array Value × TypeId)) (w : World) (k i : Nat) (A : Array Value) (t : TypeId) (v : Value) (hk : bs[k]? = some (A, t)) (hi : A[i]? = some v) : (boxAll w bs).cell? ⟨w.heap.size + k, i, none⟩ = some v := by
  induction bs generalizing w k with
  | nil => simp at hk
  | cons b bs ih =>
    cases k with
    | zero =>
      simp at hk
      subst hk
      refine (boxAll_grown bs (w.alloc (.cells A t))).cell ?_ (by simp)
      rw [Nat.add_zero, cell_of_row _ _ i A t (0, 0) (heap_alloc_new w _)]; exact hi
    | succ k =>
      have := ih (w.alloc (.cells b.1 b.2)) k (by simpa using hk)
      rw [show (w.alloc (.cells b.1 b.2)).heap.size + k = w.heap.size + (k + 1) from by simp; omega] at this
      exact this

/-- What zzBytes answers: yes or no. -/
def BytesPost (w : World) (e : Ending) (w' : World) : Prop := ∃ b : Bool, e = .returned (.bool b) ∧ Below w.heap.size w w'

set_option maxRecDepth 100000 in
set_option maxHeartbeats 2000000 in
theorem bytes_any (x count size lowest : Value) (A1 A2 LV A4 A5 CV : Array Value) (nl : Nat → Nat) (nc : Nat → Nat → Nat) (w : World) (h1 : Sls LV 16 nl) (h2 : Sls CV 256 (fun q => nc (q / 16) (q % 16))) (hb1 : ∀ i, nl i ≤ 9223372036854775807) (hb2 : ∀ i j, nc i j ≤ 9223372036854775807) :
    Calls Try.prog 14 #[x, count, size, lowest, .agg A1, .agg A2, .agg LV, .agg A4, .agg A5, .agg CV] w (BytesPost w) := by
  have G1 : Hid (∀ i, i < 16 → ∃ a c, LV[i]? = some (.slice a (nl i) c)) := h1.2
  have G2 : Hid (∀ i j, i < 16 → j < 16 → ∃ a c, CV[i * 16 + j]? = some (.slice a (nc i j) c)) := fun i j hi hj => by
    have := h2.2 (i * 16 + j) (by omega)
    simp only at this
    rw [show (i * 16 + j) / 16 = i from by omega, show (i * 16 + j) % 16 = j from by omega] at this
    exact this
  have HB := hide2 hb1 hb2
  clear h1 h2 hb1 hb2
  go_enter Try.func14, Try.ntmps14
  go_wp2_with fail
  obtain ⟨W, hW⟩ : ∃ W, W = boxAll w [(A1, 27), (A2, 28), (LV, 30), (A4, 31), (A5, 32), (CV, 33)] := ⟨_, rfl⟩
  have C1 : Hid (∀ i v, LV[i]? = some v → W.cell? ⟨w.heap.size + 2, i, none⟩ = some v) := fun i v h => by rw [hW]; exact boxAll_cell _ w 2 i LV 30 v rfl h
  have C2 : Hid (∀ i v, CV[i]? = some v → W.cell? ⟨w.heap.size + 5, i, none⟩ = some v) := fun i v h => by rw [hW]; exact boxAll_cell _ w 5 i CV 33 v rfl h
  have HBW : Hid (Below w.heap.size w W) := by show Below _ _ _; rw [hW]; exact boxAll_below _ w
  simp only [boxAll] at hW
  rw [← hW]
  clear hW
  go_loop [21, 22] (fun s t => ∃ (i q : Nat), i ≤ 16 ∧ t = .int .i64 (i : Int) ∧ s = .int .i64 (q : Int) ∧ q ≤ 1048576) (fun _ t => 16 - (intOf t).toNat)
  case atStart => exact ⟨0, 0, by omega, rfl, rfl, by omega⟩
  case round =>
    obtain ⟨i, q, hi, rfl, rfl, hq⟩ := hrel
    by_cases hlt : i < 16
    case neg =>
      go_wp2_with fail
      go_loop [21, 23, 24] (fun s t _ => ∃ (i q : Nat), i ≤ 16 ∧ t = .int .i64 (i : Int) ∧ s = .int .i64 (q : Int) ∧ q ≤ 1048576) (fun _ t _ => 16 - (intOf t).toNat)
      case atStart => exact ⟨0, q, by omega, rfl, rfl, by omega⟩
      case round =>
        clear hlt hq hi
        obtain ⟨i, q, hi, rfl, rfl, hq⟩ := hrel
        by_cases hlt : i < 16
        case neg =>
          go_wp2
          go_ret
          exact ⟨true, rfl, HBW.out⟩
        case pos =>
          have hlt' : (i : Int) < 16 := by omega
          go_wp2_with fail
          go_loop [21, 24] (fun s t => ∃ (j r : Nat), j ≤ 16 ∧ t = .int .i64 (j : Int) ∧ s = .int .i64 (r : Int) ∧ r ≤ 1048576) (fun _ t => 16 - (intOf t).toNat)
          case atStart => exact ⟨0, q, by omega, rfl, by go_num, hq⟩
          case round =>
            obtain ⟨j, r, hj, rfl, rfl, hr⟩ := hrel
            by_cases hjlt : j < 16
            case neg =>
              go_wp2
              go_round
              case rel => exact ⟨i + 1, r, by omega, by go_num, rfl, hr⟩
              case measure => simp [intOf]; omega
            case pos =>
              obtain ⟨a2, c2, hA2⟩ := G2.out i j hlt hjlt
              obtain ⟨m, Hm⟩ : ∃ n, Hid (nc i j = n) := ⟨_, rfl⟩
              rw [Hm.out] at hA2
              have hmb : m ≤ 9223372036854775807 := by rw [← Hm.out]; exact HB.out.2 i j
              have hc2 := C2.out (i * 16 + j) _ hA2
              have hjlt' : (j : Int) < 16 := by omega
              clear hA2
              by_cases hm : m ≤ 1048576
              case neg =>
                go_wp2
                go_ret
                exact ⟨false, rfl, HBW.out⟩
              case pos =>
                by_cases hs2 : r + m ≤ 1048576
                case neg =>
                  go_wp2
                  go_ret
                  exact ⟨false, rfl, HBW.out⟩
                case pos =>
                  go_wp2
                  go_round
                  case rel => exact ⟨j + 1, r + m, by omega, by go_num, by go_num, hs2⟩
                  case measure => simp [intOf]; omega
    case pos =>
      obtain ⟨a, c, hA⟩ := G1.out i hlt
      obtain ⟨n, Hn⟩ : ∃ n, Hid (nl i = n) := ⟨_, rfl⟩
      rw [Hn.out] at hA
      have hnb : n ≤ 9223372036854775807 := by rw [← Hn.out]; exact HB.out.1 i
      have hc := C1.out i _ hA
      have hlt' : (i : Int) < 16 := by omega
      clear hA
      by_cases hn : n ≤ 1048576
      case neg =>
        go_wp2
        go_ret
        exact ⟨false, rfl, HBW.out⟩
      case pos =>
        by_cases hs : q + n ≤ 1048576
        case neg =>
          go_wp2
          go_ret
          exact ⟨false, rfl, HBW.out⟩
        case pos =>
          go_wp2
          go_round
          case rel => exact ⟨i + 1, q + n, by omega, by go_num, by go_num, hs⟩
          case measure => simp [intOf]; omega

/-- What zzLeafFits answers. -/
def fitsB (zs : List Int) (l : Int) : Bool := decide (0 < zs.length) && (zs.getD (zs.length - 1) 0 == l)

set_option maxHeartbeats 1000000 in
theorem fits_any (v : Value) (zs : List Int) (l : Int) (w : World) (hs : RdS (fun _ => True) .u64 w v zs) (hl : zs.length ≤ 10000000) :
    Calls Try.prog 34 #[v, .int .u64 l] w fun e w' => e = .returned (.bool (fitsB zs l)) ∧ w' = w := by
  obtain ⟨p, c, rfl, _, h1⟩ := hs
  obtain ⟨n, HN⟩ : ∃ n, Hid (n = zs.length) := ⟨_, rfl⟩
  obtain ⟨f, HF⟩ : ∃ f, Hid (f = fitsB zs l) := ⟨_, rfl⟩
  rw [← HN.out] at h1 hl ⊢
  rw [← HF.out]
  have H1 := hide2 h1 True.intro
  clear h1
  by_cases h0 : 0 < n
  · obtain ⟨b, o, rfl, _, _, hc⟩ := H1.out.1 h0
    obtain ⟨y, HY⟩ : ∃ y, Hid (zs.getD (n - 1) 0 = y) := ⟨_, rfl⟩
    have hcell : w.cell? ⟨b, o + (n - 1), none⟩ = some (.int .u64 y) := by rw [← HY.out]; exact hc _ (by omega)
    have HE : Hid ((y == l) = f) := by
      show (y == l) = f
      rw [HF.out]; unfold fitsB
      rw [← HN.out, HY.out]; simp [h0]
    clear hc
    go_enter Try.func34, Try.ntmps34
    go_wp2
    go_ret
    exact ⟨by rw [← HE.out]; rfl, rfl⟩
  · have HE : Hid (false = f) := by
      show false = f
      rw [HF.out]; unfold fitsB
      rw [← HN.out]; simp [h0]
    go_enter Try.func34, Try.ntmps34
    go_wp2
    go_ret
    exact ⟨by rw [← HE.out]; rfl, rfl⟩

/-- What zzAscending64 answers when repeats are allowed. -/
def AscPost (zs : List Int) (w : World) (e : Ending) (w' : World) : Prop := ∃ (b : Bool) (d : Nat), e = .returned (.bool b) ∧ (b = true → Up zs) ∧ w' = w.drewN d

theorem up_of (zs : List Int) (h : ∀ j, 1 ≤ j → j < zs.length → zs.getD (j - 1) 0 ≤ zs.getD j 0) : Up zs := by
  intro i j hij hj
  induction j with
  | zero => have : i = 0 := by omega
            subst this; exact Int.le_refl _
  | succ j ih =>
    by_cases e : i = j + 1
    · subst e; exact Int.le_refl _
    · have h1 := ih (by omega) (by omega)
      have h2 := h (j + 1) (by omega) hj
      simp only [Nat.add_sub_cancel] at h2
      omega

set_option maxHeartbeats 1000000 in
theorem asc_any (v : Value) (zs : List Int) (w : World) (hs : RdS (fun _ => True) .u64 w v zs) (hl : zs.length ≤ 10000000) :
    Calls Try.prog 35 #[v, .bool false] w (AscPost zs w) := by
  obtain ⟨p, c, rfl, _, h1⟩ := hs
  obtain ⟨n, HN⟩ : ∃ n, Hid (n = zs.length) := ⟨_, rfl⟩
  rw [← HN.out] at h1 hl ⊢
  have H1 := hide2 h1 True.intro
  clear h1
  go_enter Try.func35, Try.ntmps35
  go_wp2_with fail
  go_loopw [5] (fun t wr => ∃ i d : Nat, 1 ≤ i ∧ (i ≤ n ∨ i = 1) ∧ t = .int .i64 (i : Int) ∧ wr = w.drewN d ∧ Hid (∀ j, 1 ≤ j → j < i → j < n → zs.getD (j - 1) 0 ≤ zs.getD j 0)) (fun t _ => n + 1 - (intOf t).toNat)
  case atStart => exact ⟨1, 0, by omega, by omega, rfl, rfl, fun j h1 h2 => by omega⟩
  case round =>
    obtain ⟨i, d, hi1, hi2, rfl, rfl, HI⟩ := hrel
    by_cases hlt : i < n
    · obtain ⟨b, o, rfl, _, _, hc⟩ := H1.out.1 (by omega)
      obtain ⟨y, HY⟩ : ∃ y, Hid (zs.getD i 0 = y) := ⟨_, rfl⟩
      obtain ⟨z, HZ⟩ : ∃ y, Hid (zs.getD (i - 1) 0 = y) := ⟨_, rfl⟩
      have hcell : w.cell? ⟨b, o + i, none⟩ = some (.int .u64 y) := by rw [← HY.out]; exact hc _ (by omega)
      have hcell2 : w.cell? ⟨b, o + (i - 1), none⟩ = some (.int .u64 z) := by rw [← HZ.out]; exact hc _ (by omega)
      clear hc
      have hn' : (i : Int) < (n : Int) := by omega
      by_cases hyz : y < z
      · have hd : decide (y < z) = true := by simpa using hyz
        go_wp2_with fail
        go_quiet (fail)
        go_wp2
        go_ret
        exact ⟨false, _, rfl, (fun h => by cases h), World.drewN_drewN ..⟩
      · have HS : Hid (∀ j, 1 ≤ j → j < i + 1 → j < n → zs.getD (j - 1) 0 ≤ zs.getD j 0) := fun j h1 h2 h3 => by
          by_cases e : j = i
          · subst e; rw [HY.out, HZ.out]; omega
          · exact HI.out j h1 (by omega) h3
        have hd : decide (y < z) = false := by simpa using hyz
        go_wp2_with fail
        go_quiet (fail)
        go_wp2
        go_roundw
        case rel => exact ⟨i + 1, _, by omega, by omega, by go_num, rfl, HS⟩
        case measure => simp [intOf]; omega
    · go_wp2
      go_ret
      exact ⟨true, _, rfl, fun _ => up_of zs (fun j h1 h2 => HI.out j h1 (by rw [← HN.out] at h2; omega) (by rw [← HN.out] at h2; omega)), rfl⟩

end Go.Proofs.Qxb6604322a.Tree
