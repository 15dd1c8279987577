/-
  appendDiff (40): the plain side, and the walk.
-/
import Derived.Test.Qxb6604322aChecked
import Derived.Test.Qxb6604322aOwn
import Derived.Test.Qxb6604322aCopies
import Derived.Deep.RegionHeld3
import Derived.Deep.DrawnRows
import Derived.WalkSmall
namespace Go.Proofs.Qxb6604322a.Ring
open Go.ChangeShapes Go.WideShapes Go.ChangeAt Go.RowKit Mem
set_option linter.unusedVariables false
set_option linter.unusedSimpArgs false

/-- The ids of xs that ys lacks. -/
def less (xs ys : List Int) : List Int := xs.filter (fun x => !ys.contains x)

/-- Strictly ascending. -/
def Asc : List Int → Prop
  | [] => True
  | x :: xs => (∀ y ∈ xs, x < y) ∧ Asc xs

theorem less_nil (xs : List Int) : less xs [] = xs := by simp [less]
theorem nil_less (ys : List Int) : less [] ys = [] := rfl

theorem less_hit (x : Int) (xs ys : List Int) (h : x ∉ ys) : less (x :: xs) ys = x :: less xs ys := by
  simp [less, List.filter_cons, h]
theorem less_miss (x : Int) (xs ys : List Int) (h : x ∈ ys) : less (x :: xs) ys = less xs ys := by
  simp [less, List.filter_cons, h]
/-- A number that xs lacks may be struck from ys. -/
theorem less_strike (y : Int) (xs ys : List Int) (h : y ∉ xs) : less xs (y :: ys) = less xs ys := by
  unfold less
  apply List.filter_congr
  intro x hx
  have : x ≠ y := fun e => h (e ▸ hx)
  simp [this]

theorem asc_lt (x y : Int) (ys : List Int) (ha : Asc (y :: ys)) (h : x < y) : x ∉ y :: ys := by
  intro hm
  rcases List.mem_cons.1 hm with e | e
  · omega
  · have := ha.1 x e; omega
theorem asc_notin (x : Int) (xs : List Int) (ha : Asc (x :: xs)) : x ∉ xs := fun hm => by have := ha.1 x hm; omega

/-- The entry of an id. -/
def ent (A x : Int) : Int := bits BinOp.or IntKind.u64 A x

theorem wrap_id (x : Int) (h0 : 0 ≤ x) (h1 : x ≤ 9223372036854775807) : IntKind.u64.wrap x = x := by
  simp only [IntKind.wrap]; simp [IntKind.signed, IntKind.bits]; omega

def slLen : Value → Nat
  | .slice _ n _ => n
  | _ => 0

theorem Try.info26 : (Try.prog.info? 26).map (fun i => (i.zero, i.size, i.bytes)) = some (some (.int .u64 0), 1, 8) := by kernel_rfl


def Nn (xs : List Int) : Prop := ∀ x ∈ xs, 0 ≤ x ∧ x ≤ 9223372036854775807

/-- What holds at the head of appendDiff's loop. -/
def Inv (g0 c0 : Value) (A : Int) (B : Nat) (w wr : World) (Gf Cf : List Int) (gone come was is : Value) (xs ys G C : List Int) (rg rc : Option Nat) : Prop :=
  RdS (· < B) .i64 wr was xs ∧ RdS (· < B) .i64 wr is ys ∧ Asc xs ∧ Asc ys ∧ Nn xs ∧ Nn ys ∧ Own .u64 26 B wr gone G rg ∧ Own .u64 26 B wr come C rc ∧ (∀ g, rg = some g → rc ≠ some g) ∧ Below B w wr ∧
    G ++ (less xs ys).map (ent A) = Gf ∧ C ++ (less ys xs).map (ent A) = Cf ∧ (rg = none → gone = g0) ∧ (rc = none → come = c0)

theorem Try.elem44 : Try.prog.elem 44 = 3 := by kernel_rfl
theorem Try.cells3 : Try.prog.cellsOf 3 = 1 := by kernel_rfl
theorem Try.sizeOf3 (w : World) : (sizeOf 3).run Try.prog w = .ok 1 w := by kernel_rfl
theorem Try.under44 : Try.prog.underlying 44 = some (.slice (Try.prog.elem 44)) := by kernel_rfl

/-- A slice of ints that holds something, taken apart: its head, and what 'v[1:]' is. -/
theorem rd_cons {S : Nat → Prop} {w : World} {v : Value} {x : Int} {xs : List Int} (h : RdS S .i64 w v (x :: xs)) :
    ∃ b off n c V, v = .slice (some ⟨b, off, none⟩) n c ∧ n = xs.length + 1 ∧ S b ∧ b < w.heap.size ∧ w.cell? ⟨b, off, none⟩ = some (.int .i64 x) ∧
      (∀ W, (Instr.slice 44 (.slice (some ⟨b, off, none⟩) n c) (some (.int .i64 1)) none none).run Try.prog W = .ok V W) ∧ RdS S .i64 w V xs := by
  obtain ⟨a, c, hv, hc, hp⟩ := h
  obtain ⟨b, off, rfl, hS, hlt, hcell⟩ := hp (by simp)
  simp only [List.length_cons] at hv hc hcell
  refine ⟨b, off, xs.length + 1, c, sliced (some ⟨b, off, none⟩) 1 (xs.length + 1) c 1, hv, rfl, hS, hlt, by simpa using hcell 0 (by simp), fun W => ?_, ?_⟩
  · have h1 := run_slice_l (P := Try.prog) (w := W) 44 (some ⟨b, off, none⟩) (xs.length + 1) c Try.under44 .i64 1 (by decide) (by omega)
    rw [Try.elem44, Try.sizeOf3] at h1
    simpa using h1
  · refine ⟨_, c - 1, by simp [sliced]; rfl, by omega, fun h0 => ⟨b, off + 1, ?_, hS, hlt, fun i hi => ?_⟩⟩
    · rw [if_neg (by omega)]; simp [add_plain]
    · have := hcell (i + 1) (by omega)
      rw [show off + 1 + i = off + (i + 1) from by omega, this]
      simp

theorem rd_nil {S : Nat → Prop} {w : World} {v : Value} (h : RdS S .i64 w v []) : ∃ a c, v = .slice a 0 c := by
  obtain ⟨a, c, hv, _, _⟩ := h
  exact ⟨a, c, by simpa using hv⟩

theorem rd_len {S : Nat → Prop} {k : IntKind} {w : World} {v : Value} {xs : List Int} (h : RdS S k w v xs) : slLen v = xs.length := by
  obtain ⟨a, c, hv, _, _⟩ := h
  rw [hv]; rfl

section
variable {g0 c0 : Value} {A : Int} {B : Nat} {w wr : World} {Gf Cf : List Int} {u0 u1 u3 u4 : Value} {xs ys G C : List Int} {rg rc : Option Nat}

theorem Inv.flip (h : Inv g0 c0 A B w wr Gf Cf u0 u1 u3 u4 xs ys G C rg rc) : Inv c0 g0 A B w wr Cf Gf u1 u0 u4 u3 ys xs C G rc rg := by
  obtain ⟨i1, i2, i3, i4, i5, i6, i7, i8, i9, i10, i11, i12, i13, i14⟩ := h
  exact ⟨i2, i1, i4, i3, i6, i5, i8, i7, fun g hg e => i9 g e hg, i10, i12, i11, i14, i13⟩

/-- An id that the other side lacks has been appended. -/
theorem inv_gone {x : Int} {W w2 : World} {V1 v' : Value} {g : Nat} (h : Inv g0 c0 A B w wr Gf Cf u0 u1 u3 u4 (x :: xs) ys G C rg rc) (hB : B ≤ wr.heap.size) (hx : x ∉ ys) (hW : wr.grownBy W none)
    (hown2 : Own .u64 26 B w2 v' (G ++ [ent A x]) (some g)) (hgrow2 : W.grownBy w2 rg) (hrow2 : rg = some g ∨ W.heap.size ≤ g) (R1 : RdS (· < B) .i64 wr V1 xs) :
    Inv g0 c0 A B w w2 Gf Cf v' u1 V1 u4 xs ys (G ++ [ent A x]) C (some g) rc := by
  obtain ⟨i1, i2, i3, i4, i5, i6, i7, i8, i9, i10, i11, i12, i13, i14⟩ := h
  have hWs := hW.size
  have h2s := hgrow2.size
  have hblk : ∀ b, b < B → b < wr.heap.size → w2.heap[b]? = wr.heap[b]? := fun b hb hlt =>
    (hgrow2.block b (by omega) (fun e => by have := (i7.low b e.symm).1; omega)).trans (hW.block b hlt (by simp))
  refine ⟨R1.kept hblk (by omega), i2.kept hblk (by omega), i3.2, i4, fun y hy => i5 y (by simp [hy]), i6, hown2, ?_, ?_, ?_, ?_, ?_, (fun e => by cases e), i14⟩
  · refine (i8.kept hW hB (fun g hg => by cases hg)).kept hgrow2 (by omega) (fun g' hg' => ⟨(i7.low g' hg').1, i9 g' hg'⟩)
  · intro g' hg'
    cases hg'
    rcases hrow2 with e | e
    · exact i9 g e
    · intro hc; have := (i8.low g hc).2; omega
  · exact (i10.grown hW hB (fun k hk => by cases hk)).grown hgrow2 (by omega) (fun k hk => (i7.low k hk).1)
  · rw [less_hit x xs ys hx] at i11; simpa using i11
  · rw [less_strike x ys xs hx] at i12; exact i12

theorem inv_come {y : Int} {W w2 : World} {V2 v' : Value} {g : Nat} (h : Inv g0 c0 A B w wr Gf Cf u0 u1 u3 u4 xs (y :: ys) G C rg rc) (hB : B ≤ wr.heap.size) (hy : y ∉ xs) (hW : wr.grownBy W none)
    (hown2 : Own .u64 26 B w2 v' (C ++ [ent A y]) (some g)) (hgrow2 : W.grownBy w2 rc) (hrow2 : rc = some g ∨ W.heap.size ≤ g) (R2 : RdS (· < B) .i64 wr V2 ys) :
    Inv g0 c0 A B w w2 Gf Cf u0 v' u3 V2 xs ys G (C ++ [ent A y]) rg (some g) :=
  (inv_gone h.flip hB hy hW hown2 hgrow2 hrow2 R2).flip

theorem inv_both {x : Int} {V1 V2 : Value} {W : World} (h : Inv g0 c0 A B w wr Gf Cf u0 u1 u3 u4 (x :: xs) (x :: ys) G C rg rc) (hB : B ≤ wr.heap.size) (hW : wr.grownBy W none) (R1 : RdS (· < B) .i64 wr V1 xs) (R2 : RdS (· < B) .i64 wr V2 ys) :
    Inv g0 c0 A B w W Gf Cf u0 u1 V1 V2 xs ys G C rg rc := by
  obtain ⟨i1, i2, i3, i4, i5, i6, i7, i8, i9, i10, i11, i12, i13, i14⟩ := h
  have nx := asc_notin x xs i3
  have ny := asc_notin x ys i4
  have hb : ∀ b, b < B → b < wr.heap.size → W.heap[b]? = wr.heap[b]? := fun b _ hlt => hW.block b hlt (by simp)
  refine ⟨R1.kept hb hW.size, R2.kept hb hW.size, i3.2, i4.2, fun y hy => i5 y (by simp [hy]), fun y hy => i6 y (by simp [hy]), i7.kept hW hB (fun g hg => by cases hg), i8.kept hW hB (fun g hg => by cases hg), i9, i10.grown hW hB (fun k hk => by cases hk), ?_, ?_, i13, i14⟩
  · rw [less_miss x xs _ (by simp), less_strike x xs ys nx] at i11; exact i11
  · rw [less_miss x ys _ (by simp), less_strike x ys xs ny] at i12; exact i12
end

set_option maxRecDepth 100000 in
set_option maxHeartbeats 4000000 in
theorem diff_any (gone come was is : Value) (A : Int) (X Y G0 C0 : List Int) (w : World) (hA0 : 0 ≤ A) (hA1 : A ≤ 18446744073709551615)
    (hw : RdS (· < w.heap.size) .i64 w was X) (hi : RdS (· < w.heap.size) .i64 w is Y) (aX : Asc X) (aY : Asc Y) (nX : Nn X) (nY : Nn Y)
    (hg : Own .u64 26 w.heap.size w gone G0 none) (hc : Own .u64 26 w.heap.size w come C0 none) (hG : G0.length + X.length ≤ 2000000) (hC : C0.length + Y.length ≤ 2000000) :
    Calls Try.prog 40 #[gone, come, .int .u64 A, was, is] w fun e w' => ∃ v1 v2 r1 r2, e = .returned (.tuple #[v1, v2]) ∧ Own .u64 26 w.heap.size w' v1 (G0 ++ (less X Y).map (ent A)) r1 ∧
      Own .u64 26 w.heap.size w' v2 (C0 ++ (less Y X).map (ent A)) r2 ∧ Below w.heap.size w w' ∧ (r1 = none → v1 = gone) ∧ (r2 = none → v2 = come) := by
  obtain ⟨Gf, HGf⟩ : ∃ Gf, Hid (G0 ++ (less X Y).map (ent A) = Gf) := ⟨_, rfl⟩
  obtain ⟨Cf, HCf⟩ : ∃ Cf, Hid (C0 ++ (less Y X).map (ent A) = Cf) := ⟨_, rfl⟩
  have I0 : Inv gone come A w.heap.size w w Gf Cf gone come was is X Y G0 C0 none none := ⟨hw, hi, aX, aY, nX, nY, hg, hc, (fun g h => by cases h), Below.refl _ _, HGf.out, HCf.out, fun _ => rfl, fun _ => rfl⟩
  rw [HGf.out, HCf.out]
  obtain ⟨a1, d1, rfl, _, _⟩ := hw
  obtain ⟨a2, d2, rfl, _, _⟩ := hi
  clear hg hc
  go_enter Try.func40, Try.ntmps40
  go_wp2_with fail
  go_loopw [0, 1, 3, 4] (fun g1 c1 was is wr => ∃ xs ys G C rg rc, Hid (Inv gone come A w.heap.size w wr Gf Cf g1 c1 was is xs ys G C rg rc ∧ G.length + xs.length ≤ 2000000 ∧ C.length + ys.length ≤ 2000000)) (fun _ _ was is _ => slLen was + slLen is)
  case atStart => exact ⟨X, Y, G0, C0, none, none, I0, hG, hC⟩
  case round =>
    obtain ⟨xs, ys, G, C, rg, rc, HI⟩ := hrel
    clear hG hC I0 aX aY nX nY HGf HCf
    obtain ⟨⟨i1, i2, i3, i4, i5, i6, i7, i8, i9, i10, i11, i12, i13, i14⟩, iG, iC⟩ := HI.out
    cases xs with
    | nil =>
      obtain ⟨e1, f1, rfl⟩ := rd_nil i1
      cases ys with
      | nil =>
        obtain ⟨e2, f2, rfl⟩ := rd_nil i2
        simp only [less, List.filter_nil, List.map_nil, List.append_nil] at i11 i12
        subst i11 i12
        have HF : Hid (Own .u64 26 w.heap.size wr u0 G rg ∧ Own .u64 26 w.heap.size wr u1 C rc ∧ Below w.heap.size w wr ∧ (rg = none → u0 = gone) ∧ (rc = none → u1 = come)) := ⟨i7, i8, i10, i13, i14⟩
        clear i1 i2 i3 i4 i5 i6 i7 i8 i9 i10 i13 i14 HI iG iC
        go_wp2
        go_ret2
        exact ⟨u0, u1, rg, rc, rfl, HF.out⟩
      | cons y ys =>
        have hy0 := i6 y (by simp)
        obtain ⟨hy1, hy2⟩ := hy0
        have hwy := wrap_id y hy1 hy2
        obtain ⟨b2, o2, n2, c2, V2, rfl, hn2, hB2, hb2, hcy, hs2, R2⟩ := rd_cons i2
        have m2 : (0 : Int) < (n2 : Int) := by omega
        have m3 : ((n2 : Int) == 0) = false := by simp; omega
        have m4 : 0 < n2 := by omega
        have hne2 : some b2 ≠ rc := fun e => by have := (i8.low b2 e.symm).1; omega
        have HN2 : Hid (n2 = ys.length + 1) := hn2
        simp only [List.length_cons, List.length_nil] at iG iC
        have hs := i10.size
        have H7 : Hid (Own .u64 26 w.heap.size wr u0 G rg) := i7
        have H8 : Hid (Own .u64 26 w.heap.size wr u1 C rc) := i8
        have HY : Hid (y ∉ ([] : List Int)) := by show y ∉ _; simp
        clear i1 i2 i3 i4 i5 i6 i7 i8 i9 i10 i11 i12 i13 i14 hn2
        go_wp2_with fail
        go_quiet (fail)
        go_wp2_with fail
        go_quiet (fail)
        go_wp2_with fail
        go_region_held3 (fun w' => w'.cell? ⟨b2, o2, none⟩ = some (.int .i64 y)) (first | go_keep | exact keep_cell hcy (grown_da _ _ _) hgrow2 hne2)
          ((refine step_append_mine (by rfl) _ _ _ (by rfl) Try.underlying29 Try.info26 (by decide) w.heap.size _ u1 C rc (by rfl) (by exact (H8.out.drewN hs _).alloc hs _) (by simp; omega) (by omega) _ _ (ent A y) (by rfl) (by exact one_cell _ _ _) ?_; intro g cap w2 hown2 hgrow2 hrow2 hlt2))
        have HR := inv_come HI.out.1 hs HY.out (grown_da _ _ _) hown2 hgrow2 hrow2 R2
        clear hown2 hgrow2 hrow2
        go_wp2
        go_roundw
        case rel => exact ⟨_, ys, G, _, rg, _, HR, HI.out.2.1, by simp; omega⟩
        case measure => rw [rd_len R2]; simp only [slLen]; have := HN2.out; omega
    | cons x xs =>
      have hx0 := i5 x (by simp)
      obtain ⟨hx1, hx2⟩ := hx0
      have hwx := wrap_id x hx1 hx2
      obtain ⟨b1, o1, n1, c1, V1, rfl, hn1, hB1, hb1, hcx, hs1, R1⟩ := rd_cons i1
      have l2 : (0 : Int) < (n1 : Int) := by omega
      have l3 : ((n1 : Int) == 0) = false := by simp; omega
      have l4 : 0 < n1 := by omega
      have hne1 : some b1 ≠ rg := fun e => by have := (i7.low b1 e.symm).1; omega
      have HN1 : Hid (n1 = xs.length + 1) := hn1
      cases ys with
      | nil =>
        obtain ⟨e2, f2, rfl⟩ := rd_nil i2
        simp only [List.length_cons, List.length_nil] at iG iC
        have hs := i10.size
        have H7 : Hid (Own .u64 26 w.heap.size wr u0 G rg) := i7
        have H8 : Hid (Own .u64 26 w.heap.size wr u1 C rc) := i8
        have HX : Hid (x ∉ ([] : List Int)) := by show x ∉ _; simp
        clear i1 i2 i3 i4 i5 i6 i7 i8 i9 i10 i11 i12 i13 i14 hn1
        go_wp2_with fail
        go_quiet (fail)
        go_wp2_with fail
        go_region_held3 (fun w' => w'.cell? ⟨b1, o1, none⟩ = some (.int .i64 x)) (first | go_keep | exact keep_cell hcx (grown_da _ _ _) hgrow2 hne1)
          ((refine step_append_mine (by rfl) _ _ _ (by rfl) Try.underlying29 Try.info26 (by decide) w.heap.size _ u0 G rg (by rfl) (by exact (H7.out.drewN hs _).alloc hs _) (by simp; omega) (by omega) _ _ (ent A x) (by rfl) (by exact one_cell _ _ _) ?_; intro g cap w2 hown2 hgrow2 hrow2 hlt2))
        have HR := inv_gone HI.out.1 hs HX.out (grown_da _ _ _) hown2 hgrow2 hrow2 R1
        clear hown2 hgrow2 hrow2
        go_wp2
        go_roundw
        case rel => exact ⟨xs, _, _, C, _, rc, HR, by simp; omega, HI.out.2.2⟩
        case measure => rw [rd_len R1]; simp only [slLen]; have := HN1.out; omega
      | cons y ys =>
        have hy0 := i6 y (by simp)
        obtain ⟨hy1, hy2⟩ := hy0
        have hwy := wrap_id y hy1 hy2
        obtain ⟨b2, o2, n2, c2, V2, rfl, hn2, hB2, hb2, hcy, hs2, R2⟩ := rd_cons i2
        have m2 : (0 : Int) < (n2 : Int) := by omega
        have m3 : ((n2 : Int) == 0) = false := by simp; omega
        have m4 : 0 < n2 := by omega
        have hne2 : some b2 ≠ rc := fun e => by have := (i8.low b2 e.symm).1; omega
        have HN2 : Hid (n2 = ys.length + 1) := hn2
        simp only [List.length_cons, List.length_nil] at iG iC
        have hs := i10.size
        have H7 : Hid (Own .u64 26 w.heap.size wr u0 G rg) := i7
        have H8 : Hid (Own .u64 26 w.heap.size wr u1 C rc) := i8
        by_cases hxy : x < y
        · have HX : Hid (x ∉ y :: ys) := asc_lt x y ys i4 hxy
          clear i1 i2 i3 i4 i5 i6 i7 i8 i9 i10 i11 i12 i13 i14 hn1 hn2
          go_wp2_with fail
          go_quiet (fail)
          go_wp2_with fail
          go_region_held3 (fun w' => w'.cell? ⟨b1, o1, none⟩ = some (.int .i64 x)) (first | go_keep | exact keep_cell hcx (grown_da _ _ _) hgrow2 hne1)
            ((refine step_append_mine (by rfl) _ _ _ (by rfl) Try.underlying29 Try.info26 (by decide) w.heap.size _ u0 G rg (by rfl) (by exact (H7.out.drewN hs _).alloc hs _) (by simp; omega) (by omega) _ _ (ent A x) (by rfl) (by exact one_cell _ _ _) ?_; intro g cap w2 hown2 hgrow2 hrow2 hlt2))
          have HR := inv_gone HI.out.1 hs HX.out (grown_da _ _ _) hown2 hgrow2 hrow2 R1
          clear hown2 hgrow2 hrow2
          go_wp2
          go_roundw
          case rel => exact ⟨xs, _, _, C, _, rc, HR, by simp; omega, HI.out.2.2⟩
          case measure => rw [rd_len R1]; simp only [slLen]; have := HN1.out; omega
        · by_cases hyx : y < x
          · have HY : Hid (y ∉ x :: xs) := asc_lt y x xs i3 hyx
            clear i1 i2 i3 i4 i5 i6 i7 i8 i9 i10 i11 i12 i13 i14 hn1 hn2
            go_wp2_with fail
            go_quiet (fail)
            go_wp2_with fail
            go_quiet (fail)
            go_wp2_with fail
            go_region_held3 (fun w' => w'.cell? ⟨b2, o2, none⟩ = some (.int .i64 y)) (first | go_keep | exact keep_cell hcy (grown_da _ _ _) hgrow2 hne2)
              ((refine step_append_mine (by rfl) _ _ _ (by rfl) Try.underlying29 Try.info26 (by decide) w.heap.size _ u1 C rc (by rfl) (by exact (H8.out.drewN hs _).alloc hs _) (by simp; omega) (by omega) _ _ (ent A y) (by rfl) (by exact one_cell _ _ _) ?_; intro g cap w2 hown2 hgrow2 hrow2 hlt2))
            have HR := inv_come HI.out.1 hs HY.out (grown_da _ _ _) hown2 hgrow2 hrow2 R2
            clear hown2 hgrow2 hrow2
            go_wp2
            go_roundw
            case rel => exact ⟨_, ys, G, _, rg, _, HR, HI.out.2.1, by simp; omega⟩
            case measure => rw [rd_len R2]; simp only [slLen]; have := HN2.out; omega
          · obtain rfl : x = y := by omega
            clear i1 i2 i3 i4 i5 i6 i7 i8 i9 i10 i11 i12 i13 i14 hn1 hn2
            go_wp2_with fail
            go_quiet (fail)
            go_wp2_with fail
            go_quiet (fail)
            go_wp2_with fail
            go_quiet (fail)
            go_wp2
            go_roundw
            case rel => exact ⟨xs, ys, G, C, rg, rc, inv_both HI.out.1 hs ⟨rfl, rfl, rfl, Nat.le_refl _, fun _ _ _ => rfl⟩ R1 R2, by omega, by omega⟩
            case measure => rw [rd_len R1, rd_len R2]; simp only [slLen]; have := HN1.out; have := HN2.out; omega

end Go.Proofs.Qxb6604322a.Ring
