/-
  The reference's Fit by a contract; a lemma text, no statement of the seat.
-/
import Derived.Test.YtlggpodblabmdaaDo
import Derived.StillTailTactics
import Derived.Deep.Cut
import Derived.Laws.ResultCell
import Derived.Laws.Rows
import Derived.BigQuiet
namespace Go.Proofs.Ytlggpodblabmdaa
open Go.RowKit

/-- In the middle of Fit: the grove, the change in a block of its own, the result in the next one. -/
structure FitSt (w : World) (n a pb pc kb kc : Nat) (T : Gr) (k i t x : Int) (K : Nat → Value) (w1 : World) : Prop where
  gr : GR w1 n a pb pc kb kc T K
  below : Below w.heap.size w w1
  box : w1.heap[w.heap.size]? = some (.cells #[.int .i64 k, .int .i64 i, .int .i64 t, .int .i64 x] 28 (0, 0))
  res : ∃ r0 r1 r2 r3, w1.heap[w.heap.size + 1]? = some (.cells #[r0, r1, r2, r3] 28 (0, 0))

/-- What Fit tells. -/
def FitPost (w : World) (n : Nat) (T : Gr) (moved : Bool) (k i t x : Nat) (e : Ending) (w' : World) : Prop :=
  ∃ ok : Bool, e = .returned (.tuple #[chV ⟨k, i, t, x⟩, .bool ok]) ∧ Below w.heap.size w w' ∧
    (ok = true → Valid n T ⟨k, i, t, x⟩ ∧ (k ≠ 1 → k ≠ 2 → ¬ Ab T x i ∧ (moved = false → T.par x = none)))

section
variable {w w1 w2 : World} {n a pb pc kb kc : Nat} {T T' : Gr} {K : Nat → Value} {k i t x : Int}

theorem heap_two (w : World) (o o' : Obj) : ((w.alloc o).alloc o').heap[w.heap.size]? = some o ∧ ((w.alloc o).alloc o').heap[w.heap.size + 1]? = some o' := by
  have e : ((w.alloc o).alloc o').heap = (w.heap.push o).push o' := rfl
  rw [e]
  constructor
  · rw [Array.getElem?_push_lt (by simp)]; simp
  · rw [show w.heap.size + 1 = (w.heap.push o).size by simp, Array.getElem?_push_size]

theorem FitSt.start (h : GR w n a pb pc kb kc T K) (k i t x : Int) :
    FitSt w n a pb pc kb kc T k i t x K ((w.alloc (.cells #[.int .i64 k, .int .i64 i, .int .i64 t, .int .i64 x] 28 (0, 0))).alloc (.cells #[.int .i64 0, .int .i64 0, .int .i64 0, .int .i64 0] 28 (0, 0))) := by
  have hb : Below w.heap.size w ((w.alloc (.cells #[.int .i64 k, .int .i64 i, .int .i64 t, .int .i64 x] 28 (0, 0))).alloc (.cells #[.int .i64 0, .int .i64 0, .int .i64 0, .int .i64 0] 28 (0, 0))) :=
    ((Below.refl _ _).alloc (Nat.le_refl _) _).alloc (by simp) _
  exact ⟨h.below hb, hb, (heap_two _ _ _).1, _, _, _, _, (heap_two _ _ _).2⟩

theorem FitSt.drewN (h : FitSt w n a pb pc kb kc T k i t x K w1) (q : Nat) : FitSt w n a pb pc kb kc T k i t x K (w1.drewN q) :=
  ⟨h.gr.kept ((Kept.refl (fun _ => False) w1).drewN q) id id id (fun _ _ _ _ => id), ⟨h.below.os, h.below.tape, h.below.output, h.below.size, h.below.block⟩, h.box, h.res⟩
theorem FitSt.drew (h : FitSt w n a pb pc kb kc T k i t x K w1) : FitSt w n a pb pc kb kc T k i t x K w1.drew := h.drewN 1

theorem FitSt.cells (h : FitSt w n a pb pc kb kc T k i t x K w1) : w1.cell? ⟨w.heap.size, 0, none⟩ = some (.int .i64 k) ∧ w1.cell? ⟨w.heap.size, 1, none⟩ = some (.int .i64 i) ∧
    w1.cell? ⟨w.heap.size, 2, none⟩ = some (.int .i64 t) ∧ w1.cell? ⟨w.heap.size, 3, none⟩ = some (.int .i64 x) :=
  ⟨block_cell h.box rfl, block_cell h.box rfl, block_cell h.box rfl, block_cell h.box rfl⟩
theorem FitSt.soft (h : FitSt w n a pb pc kb kc T k i t x K w1) : ∀ o, w1.frozen? ⟨w.heap.size, o, none⟩ = false := fun o => by simp [World.frozen?, h.box]
theorem FitSt.soft1 (h : FitSt w n a pb pc kb kc T k i t x K w1) : ∀ o, w1.frozen? ⟨w.heap.size + 1, o, none⟩ = false := fun o => by
  obtain ⟨r0, r1, r2, r3, hr⟩ := h.res
  simp [World.frozen?, hr]
theorem FitSt.rcells (h : FitSt w n a pb pc kb kc T k i t x K w1) : ∃ r0 r1 r2 r3, w1.cell? ⟨w.heap.size + 1, 0, none⟩ = some r0 ∧ w1.cell? ⟨w.heap.size + 1, 1, none⟩ = some r1 ∧
    w1.cell? ⟨w.heap.size + 1, 2, none⟩ = some r2 ∧ w1.cell? ⟨w.heap.size + 1, 3, none⟩ = some r3 := by
  obtain ⟨r0, r1, r2, r3, hr⟩ := h.res
  exact ⟨r0, r1, r2, r3, block_cell hr rfl, block_cell hr rfl, block_cell hr rfl, block_cell hr rfl⟩

/-- Four cells of a block are written. -/
def set4 (w : World) (b : Nat) (k i t x : Int) : World :=
  (((w.setCell ⟨b, 0, none⟩ (.int .i64 k)).setCell ⟨b, 1, none⟩ (.int .i64 i)).setCell ⟨b, 2, none⟩ (.int .i64 t)).setCell ⟨b, 3, none⟩ (.int .i64 x)

theorem set4_at {w : World} {b : Nat} {r0 r1 r2 r3 : Value} {ty : TypeId} (h : w.heap[b]? = some (.cells #[r0, r1, r2, r3] ty (0, 0))) (k i t x : Int) :
    (set4 w b k i t x).heap[b]? = some (.cells #[.int .i64 k, .int .i64 i, .int .i64 t, .int .i64 x] ty (0, 0)) := by
  unfold set4
  exact heap_setCell_eq (heap_setCell_eq (heap_setCell_eq (heap_setCell_eq h _ _) _ _) _ _) _ _
theorem set4_other {w : World} {b b' : Nat} (hb : b' ≠ b) (k i t x : Int) : (set4 w b k i t x).heap[b']? = w.heap[b']? := by
  unfold set4
  rw [Below.heap_setCell _ _ _ _ hb, Below.heap_setCell _ _ _ _ hb, Below.heap_setCell _ _ _ _ hb, Below.heap_setCell _ _ _ _ hb]
theorem set4_below {w w1 : World} {B b : Nat} (h : Below B w w1) (hb : B ≤ b) (k i t x : Int) : Below B w (set4 w1 b k i t x) :=
  (((h.setCell hb _).setCell hb _).setCell hb _).setCell hb _
theorem set4_gr (h0 : GR w n a pb pc kb kc T K) (hb : Below w.heap.size w w1) : GR w1 n a pb pc kb kc T K := h0.below hb

theorem FitSt.put (h0 : GR w n a pb pc kb kc T K) (h : FitSt w n a pb pc kb kc T k i t x K w1) (k' i' t' x' : Int) : FitSt w n a pb pc kb kc T k' i' t' x' K (set4 w1 w.heap.size k' i' t' x') := by
  obtain ⟨r0, r1, r2, r3, hr⟩ := h.res
  have hb := set4_below h.below (Nat.le_refl _) k' i' t' x'
  exact ⟨h0.below hb, hb, set4_at h.box _ _ _ _, r0, r1, r2, r3, by rw [set4_other (by omega)]; exact hr⟩
theorem FitSt.out (h : FitSt w n a pb pc kb kc T k i t x K w1) :
    Below w.heap.size w (set4 w1 (w.heap.size + 1) k i t x) ∧ (set4 w1 (w.heap.size + 1) k i t x).heap[w.heap.size + 1]? = some (.cells #[.int .i64 k, .int .i64 i, .int .i64 t, .int .i64 x] 28 (0, 0)) := by
  obtain ⟨r0, r1, r2, r3, hr⟩ := h.res
  exact ⟨set4_below h.below (by omega) _ _ _ _, set4_at hr _ _ _ _⟩

theorem results_fit {tmps : Array Value} {W : World} {b : Nat} {ok : Bool} {cs : Array Value} (h6 : tmps.getD 6 undef = .pointer (some ⟨b, 0, none⟩)) (h7 : tmps.getD 7 undef = .bool ok)
    (hb : W.heap[b]? = some (.cells cs 28 (0, 0))) (hsz : cs.size = 4) : (results Try.f24 tmps).run Try.prog W = .ok (.tuple #[.agg cs, .bool ok]) W := by
  rw [results_cell_tmp (p := 6) (u := 7) (ty := 28) rfl, h6, h7]
  simp only [asAddr, Sem.run_pure, Result.andThen_ok]
  rw [run_loadVar_row W b 28 28 cs (0, 0) _ hb (show Try.prog.underlying 28 = some _ from Try.underlying28) rfl (by rw [hsz]; kernel_rfl)]
  rfl

theorem set4_cell {w : World} {b b' : Nat} (hb : b' ≠ b) {k i t x : Int} {o : Nat} {u : Value} (h : w.cell? ⟨b', o, none⟩ = some u) : (set4 w b k i t x).cell? ⟨b', o, none⟩ = some u := by
  have e : (set4 w b k i t x).heap[b']? = w.heap[b']? := set4_other hb k i t x
  unfold World.cell? at h ⊢
  rw [e]
  exact h

theorem above_yes (h : GR w n a pb pc kb kc T K) (hw : WF n T) (hac : Acyc T) {x y : Nat} (hy : y < n) (hab : Ab T x y) :
    Calls Try.prog 31 #[.pointer (some ⟨a, 0, none⟩), .int .i64 x, .int .i64 y] w fun e w' => e = .returned (.bool true) ∧ w' = w :=
  (above_c h hw hac x hy).mono fun e w' ⟨b, he, hb, hww⟩ => by
    have : b = true := hb.2 hab
    subst this
    exact ⟨he, hww.symm⟩
theorem above_no (h : GR w n a pb pc kb kc T K) (hw : WF n T) (hac : Acyc T) {x y : Nat} (hy : y < n) (hab : ¬ Ab T x y) :
    Calls Try.prog 31 #[.pointer (some ⟨a, 0, none⟩), .int .i64 x, .int .i64 y] w fun e w' => e = .returned (.bool false) ∧ w' = w :=
  (above_c h hw hac x hy).mono fun e w' ⟨b, he, hb, hww⟩ => by
    have : b = false := by
      cases b with
      | false => rfl
      | true => exact absurd (hb.1 rfl) hab
    subst this
    exact ⟨he, hww.symm⟩

theorem pn_ne {o : Option Nat} {i : Nat} (h : o ≠ some i) : (pn o == (i : Int)) = false := by
  cases o with
  | none => simp [pn]
  | some p =>
    have : p ≠ i := fun e => h (by rw [e])
    simp only [pn, beq_eq_false_iff_ne]
    omega

theorem last_ne {n : Nat} {T : Gr} (h : WF n T) {i t l : Nat} (ht : T.par t = some i) (hl : (T.kids i)[(T.kids i).length - 1]? = some l) (hne : l ≠ t) : ∃ y, (T.kids i)[T.place i t + 1]? = some y ∧ nxt (T.kids i) t = some y := by
  obtain ⟨a, b, hab, ha, hb, hn, hpl, -⟩ := h.split ht
  rw [hab] at hl ⊢
  rw [hpl, nxt_mid _ _ _ ha]
  cases b with
  | nil => simp at hl; exact absurd hl.symm hne
  | cons y b => exact ⟨y, by simp, rfl⟩

set_option maxRecDepth 100000 in
set_option maxHeartbeats 3200000 in
theorem fit_0 (h : GR w n a pb pc kb kc T K) (hwf : WF n T) (hac : Acyc T) (hn0 : 0 < n) (hn : n ≤ 1000) {k0 i0 t0 x0 : Int} {m : Bool} {i t x : Nat} (hk : k0 % 6 = 0) (hi : i0 % n = i) (ht : t0 % n = t) (hx : x0 % n = x)
    (hin : i < n) (htn : t < n) (hxn : x < n) :
    Calls Try.prog 24 #[.pointer (some ⟨a, 0, none⟩), .agg #[.int .i64 k0, .int .i64 i0, .int .i64 t0, .int .i64 x0], .bool m] w (FitPost w n T m 0 i t x) := by
  have h0 := FitSt.start h k0 i0 t0 x0
  have c0 := h0.gr.c0
  have H := Lib.hid h
  have H0 := Lib.hid h0
  have HK := Lib.hid (And.intro hk (And.intro hi (And.intro ht hx)))
  clear h h0 hk hi ht hx
  have HWF := Lib.hid hwf
  have HAC := Lib.hid hac
  clear hwf hac
  go_enter Try.func24, Try.ntmps24
  go_wp2_with fail
  obtain ⟨w0, hw0⟩ : ∃ w0, (w.alloc (.cells #[.int .i64 k0, .int .i64 i0, .int .i64 t0, .int .i64 x0] 28 (0, 0))).alloc (.cells #[.int .i64 0, .int .i64 0, .int .i64 0, .int .i64 0] 28 (0, 0)) = w0 := ⟨_, rfl⟩
  rw [hw0] at H0 ⊢
  obtain ⟨f0, f1, f2, f3⟩ := H0.out.cells
  have z0 := H0.out.soft
  clear hw0 c0
  have d : ∀ z : Int, Calls Try.prog 30 #[.int .i64 z, .int .i64 n] w0.drew fun e w'' => e = .returned (.int .i64 (z % n)) ∧ w'' = w0.drew := fun z => (mod_c z n hn0 hn _).mono fun e w'' h => ⟨h.1, h.2.symm⟩
  have d6 : ∀ z : Int, Calls Try.prog 30 #[.int .i64 z, .int .i64 6] w0.drew fun e w'' => e = .returned (.int .i64 (z % 6)) ∧ w'' = w0.drew := fun z => (mod_c z 6 (by decide) (by decide) _).mono fun e w'' h => ⟨h.1, h.2.symm⟩
  go_still_tail 16, (by kernel_rfl)
  still_call (d6 _)
  repeat still_step
  still_call (d _)
  repeat still_step
  still_call (d _)
  repeat still_step
  still_call (d _)
  repeat still_step
  refine wpStill_nil ?_
  clear d d6
  change wpList _ _ _ _ _ w0.drew
  obtain ⟨w2, hw2⟩ : ∃ w2, w0.drew = w2 := ⟨_, rfl⟩
  have H2 := Lib.hid H0.out.drew
  rw [hw2] at H2 ⊢
  clear hw2 H0 f0 f1 f2 f3 z0
  obtain ⟨f0, f1, f2, f3⟩ := H2.out.cells
  have z0 := H2.out.soft
  simp only [HK.out.1, HK.out.2.1, HK.out.2.2.1, HK.out.2.2.2]
  go_upto_region 3 with (fail)
  change Code.wp _ _ _ _ (set4 w2 w.heap.size 0 i t x)
  obtain ⟨w3, hw3⟩ : ∃ w3, set4 w2 w.heap.size 0 i t x = w3 := ⟨_, rfl⟩
  have H3 := Lib.hid (FitSt.put H.out H2.out 0 i t x)
  rw [hw3] at H3 ⊢
  clear hw3 f0 f1 f2 f3 z0 H2
  obtain ⟨f0, f1, f2, f3⟩ := H3.out.cells
  obtain ⟨r0, r1, r2, r3, g0, g1, g2, g3⟩ := H3.out.rcells
  have z1 := H3.out.soft1
  go_wp2_with fail
  have hi0 : (0 : Int) ≤ (i : Int) := Int.natCast_nonneg _
  have hi1 : (i : Int) < (n : Int) := by omega
  have hx0 : (0 : Int) ≤ (x : Int) := Int.natCast_nonneg _
  have hx1 : (x : Int) < (n : Int) := by omega
  have ht0 : (0 : Int) ≤ (t : Int) := Int.natCast_nonneg _
  have ht1 : (t : Int) < (n : Int) := by omega
  by_cases hab : Ab T x i
  · have HAB := Lib.hid hab
    clear hab
    go_quiet (exact Calls.quiet_of_same (above_yes (H3.out.drewN _).gr HWF.out HAC.out hin HAB.out))
    obtain ⟨w4, hw4⟩ : ∃ w4, w3.drewN nq = w4 := ⟨_, rfl⟩
    have H4 := Lib.hid (H3.out.drewN nq)
    rw [hw4] at H4 ⊢
    clear hw4 f0 f1 f2 f3 g0 g1 g2 g3 z1 H3
    obtain ⟨f0, f1, f2, f3⟩ := H4.out.cells
    obtain ⟨r0, r1, r2, r3, g0, g1, g2, g3⟩ := H4.out.rcells
    have z1 := H4.out.soft1
    go_wp2_with fail
    have hout := H4.out.out
    refine bodyPost_ret_by (results_fit rfl rfl hout.2 rfl) rfl ?_
    exact ⟨false, rfl, hout.1, fun h => by cases h⟩
  have HAB := Lib.hid hab
  clear hab
  obtain ⟨o, ho⟩ : ∃ o, T.par x = o := ⟨_, rfl⟩
  have c0 := H3.out.gr.c0
  have c1 := H3.out.gr.c1
  have cx := H3.out.gr.par_at hxn
  rw [ho] at cx
  have HO := Lib.hid ho
  clear ho
  cases m
  case' false =>
    cases o
    case' some p =>
      have hp0 : (0 : Int) ≤ (p : Int) := Int.natCast_nonneg _
      simp only [pn] at cx
      go_quiet (exact Calls.quiet_of_same (above_no (H3.out.drewN _).gr HWF.out HAC.out hin HAB.out))
      obtain ⟨w4, hw4⟩ : ∃ w4, w3.drewN nq = w4 := ⟨_, rfl⟩
      have H4 := Lib.hid (H3.out.drewN nq)
      rw [hw4] at H4 ⊢
      clear hw4 f0 f1 f2 f3 g0 g1 g2 g3 z1 H3
      obtain ⟨f0, f1, f2, f3⟩ := H4.out.cells
      obtain ⟨r0, r1, r2, r3, g0, g1, g2, g3⟩ := H4.out.rcells
      have z1 := H4.out.soft1
      go_wp2_with fail
      have hout := H4.out.out
      refine bodyPost_ret_by (results_fit rfl rfl hout.2 rfl) rfl ?_
      exact ⟨false, rfl, hout.1, fun h => by cases h⟩
    have HM := Lib.hid (show (false = false → T.par x = none) from fun _ => HO.out)
    simp only [pn] at cx
  case' true =>
    have HM := Lib.hid (show (true = false → T.par x = none) from fun h => by cases h)
  all_goals
    go_quiet (exact Calls.quiet_of_same (above_no (H3.out.drewN _).gr HWF.out HAC.out hin HAB.out))
    obtain ⟨w4, hw4⟩ : ∃ w4, w3.drewN nq = w4 := ⟨_, rfl⟩
    have H4 := Lib.hid (H3.out.drewN nq)
    rw [hw4] at H4 ⊢
    clear hw4 f0 f1 f2 f3 g0 g1 g2 g3 z1 H3
    obtain ⟨f0, f1, f2, f3⟩ := H4.out.cells
    obtain ⟨r0, r1, r2, r3, g0, g1, g2, g3⟩ := H4.out.rcells
    have z1 := H4.out.soft1
    clear c0 c1 cx HO
    have c0 := H4.out.gr.c0
    have c1 := H4.out.gr.c1
    have ck := H4.out.gr.kid_at hin
    go_wp2_with fail
    obtain ⟨g, ao, cap, hvv, hcap, -⟩ := own_shape (H4.out.gr.row i hin)
    rw [hvv] at ck
    clear hvv hcap
    go_quiet (fail)
    obtain ⟨w5, hw5⟩ : ∃ w5, w4.drewN nq = w5 := ⟨_, rfl⟩
    have H5 := Lib.hid (H4.out.drewN nq)
    rw [hw5] at H5 ⊢
    clear hw5 f0 f1 f2 f3 g0 g1 g2 g3 z1 H4
    obtain ⟨f0, f1, f2, f3⟩ := H5.out.cells
    obtain ⟨r0, r1, r2, r3, g0, g1, g2, g3⟩ := H5.out.rcells
    have z1 := H5.out.soft1
    clear c0 c1 ck
    go_wp2_with fail
    go_quiet (fail)
    obtain ⟨w6, hw6⟩ : ∃ w6, w5.drewN nq = w6 := ⟨_, rfl⟩
    have H6 := Lib.hid (H5.out.drewN nq)
    rw [hw6] at H6 ⊢
    clear hw6 f0 f1 f2 f3 g0 g1 g2 g3 z1 H5
    obtain ⟨f0, f1, f2, f3⟩ := H6.out.cells
    obtain ⟨r0, r1, r2, r3, g0, g1, g2, g3⟩ := H6.out.rcells
    have z1 := H6.out.soft1
    go_wp2_with fail
    refine (placeG_c H6.out.gr (HWF.out.lens hn) hin t).mono ?_
    rintro e w7 ⟨rfl, rfl⟩
    obtain ⟨pl, hpl⟩ : ∃ pl, plc T i t = pl := ⟨_, rfl⟩
    rw [hpl]
    clear hpl
    go_wp2_with fail
    go_quiet (fail)
    obtain ⟨w7, hw7⟩ : ∃ w7, w6.drewN nq = w7 := ⟨_, rfl⟩
    have H7 := Lib.hid (H6.out.drewN nq)
    rw [hw7] at H7 ⊢
    clear hw7 f0 f1 f2 f3 g0 g1 g2 g3 z1 H6
    obtain ⟨f0, f1, f2, f3⟩ := H7.out.cells
    obtain ⟨r0, r1, r2, r3, g0, g1, g2, g3⟩ := H7.out.rcells
    have z1 := H7.out.soft1
    go_wp2_with fail
    obtain ⟨w8, hw8⟩ : ∃ w8, w7.drew = w8 := ⟨_, rfl⟩
    refine wp_region_lastD (fun w' => w'.cell? ⟨w.heap.size, 0, none⟩ = some (.int .i64 0) ∧ w'.cell? ⟨w.heap.size, 1, none⟩ = some (.int .i64 i) ∧ w'.cell? ⟨w.heap.size, 2, none⟩ = some (.int .i64 t) ∧ w'.cell? ⟨w.heap.size, 3, none⟩ = some (.int .i64 x)) 25 (by kernel_rfl) hw8 ?_
    have H8 := Lib.hid H7.out.drew
    rw [hw8] at H8
    clear hw8 f0 f1 f2 f3 g0 g1 g2 g3 z1 H7
    obtain ⟨f0, f1, f2, f3⟩ := H8.out.cells
    obtain ⟨r0, r1, r2, r3, g0, g1, g2, g3⟩ := H8.out.rcells
    have z1 := H8.out.soft1
    have hS : (w8.cell? ⟨w.heap.size, 0, none⟩ = some (.int .i64 0) ∧ w8.cell? ⟨w.heap.size, 1, none⟩ = some (.int .i64 i) ∧ w8.cell? ⟨w.heap.size, 2, none⟩ = some (.int .i64 t) ∧ w8.cell? ⟨w.heap.size, 3, none⟩ = some (.int .i64 x)) := ⟨f0, f1, f2, f3⟩
    refine wpAnyL_takeE (i := 0) 133 rfl rfl (by kernel_rfl) (by kernel_rfl) (by kernel_rfl) (by kernel_rfl) (fun _ _ _ _ h => h) (by rfl) hS ?_
    apply Exists.intro
    refine ⟨fun w' hSw => ?_, ?_⟩
    · obtain ⟨s1, s2, s3, s4⟩ := hSw
      go_simp <;> with_reducible rfl
    simp only [List.setIfInBounds_toArray, List.set_cons_zero, List.set_cons_succ]
    refine wpAnyL_takeE (i := 1) 134 rfl rfl (by kernel_rfl) (by kernel_rfl) (by kernel_rfl) (by kernel_rfl) (fun _ _ _ _ h => h) (by rfl) hS ?_
    apply Exists.intro
    refine ⟨fun w' hSw => ?_, ?_⟩
    · obtain ⟨s1, s2, s3, s4⟩ := hSw
      go_simp <;> with_reducible rfl
    simp only [List.setIfInBounds_toArray, List.set_cons_zero, List.set_cons_succ]
    refine wpAnyL_takeE (i := 2) 135 rfl rfl (by kernel_rfl) (by kernel_rfl) (by kernel_rfl) (by kernel_rfl) (fun _ _ _ _ h => h) (by rfl) hS ?_
    apply Exists.intro
    refine ⟨fun w' hSw => ?_, ?_⟩
    · obtain ⟨s1, s2, s3, s4⟩ := hSw
      go_simp <;> with_reducible rfl
    simp only [List.setIfInBounds_toArray, List.set_cons_zero, List.set_cons_succ]
    refine wpAnyL_takeE (i := 3) 136 rfl rfl (by kernel_rfl) (by kernel_rfl) (by kernel_rfl) (by kernel_rfl) (fun _ _ _ _ h => h) (by rfl) hS ?_
    apply Exists.intro
    refine ⟨fun w' hSw => ?_, ?_⟩
    · obtain ⟨s1, s2, s3, s4⟩ := hSw
      go_simp <;> with_reducible rfl
    simp only [List.setIfInBounds_toArray, List.set_cons_zero, List.set_cons_succ]
    refine wpAnyL_takeE (i := 4) 137 rfl rfl (by kernel_rfl) (by kernel_rfl) (by kernel_rfl) (by kernel_rfl) (fun _ _ _ _ h => h) (by rfl) hS ?_
    apply Exists.intro
    refine ⟨fun w' hSw => ?_, ?_⟩
    · obtain ⟨s1, s2, s3, s4⟩ := hSw
      go_simp <;> with_reducible rfl
    simp only [List.setIfInBounds_toArray, List.set_cons_zero, List.set_cons_succ]
    refine wpAnyL_skip (i := 5) 138 rfl rfl (by kernel_rfl) (by kernel_rfl) (by kernel_rfl) (by kernel_rfl) (fun _ _ _ h => h) (by rfl) hS ?_
    simp only [List.setIfInBounds_toArray, List.set_cons_zero, List.set_cons_succ]
    refine wpAnyL_skip (i := 6) 139 rfl rfl (by kernel_rfl) (by kernel_rfl) (by kernel_rfl) (by kernel_rfl) (fun _ _ _ h => h) (by rfl) hS ?_
    simp only [List.setIfInBounds_toArray, List.set_cons_zero, List.set_cons_succ]
    refine wpAnyL_skip (i := 7) 140 rfl rfl (by kernel_rfl) (by kernel_rfl) (by kernel_rfl) (by kernel_rfl) (fun _ _ _ h => h) (by rfl) hS ?_
    simp only [List.setIfInBounds_toArray, List.set_cons_zero, List.set_cons_succ]
    refine wpAnyL_skip (i := 8) 141 rfl rfl (by kernel_rfl) (by kernel_rfl) (by kernel_rfl) (by kernel_rfl) (fun _ _ _ h => h) (by rfl) hS ?_
    simp only [List.setIfInBounds_toArray, List.set_cons_zero, List.set_cons_succ]
    refine wpAnyL_skip (i := 9) 142 rfl rfl (by kernel_rfl) (by kernel_rfl) (by kernel_rfl) (by kernel_rfl) (fun _ _ _ h => h) (by rfl) hS ?_
    simp only [List.setIfInBounds_toArray, List.set_cons_zero, List.set_cons_succ]
    refine wpAnyL_skip (i := 10) 143 rfl rfl (by kernel_rfl) (by kernel_rfl) (by kernel_rfl) (by kernel_rfl) (fun _ _ _ h => h) (by rfl) hS ?_
    simp only [List.setIfInBounds_toArray, List.set_cons_zero, List.set_cons_succ]
    refine wpAnyL_skip (i := 11) 144 rfl rfl (by kernel_rfl) (by kernel_rfl) (by kernel_rfl) (by kernel_rfl) (fun _ _ _ h => h) (by rfl) hS ?_
    simp only [List.setIfInBounds_toArray, List.set_cons_zero, List.set_cons_succ]
    refine wpAnyL_skip (i := 12) 145 rfl rfl (by kernel_rfl) (by kernel_rfl) (by kernel_rfl) (by kernel_rfl) (fun _ _ _ h => h) (by rfl) hS ?_
    simp only [List.setIfInBounds_toArray, List.set_cons_zero, List.set_cons_succ]
    refine wpAnyL_skip (i := 13) 146 rfl rfl (by kernel_rfl) (by kernel_rfl) (by kernel_rfl) (by kernel_rfl) (fun _ _ _ h => h) (by rfl) hS ?_
    simp only [List.setIfInBounds_toArray, List.set_cons_zero, List.set_cons_succ]
    refine wpAnyL_skip (i := 14) 147 rfl rfl (by kernel_rfl) (by kernel_rfl) (by kernel_rfl) (by kernel_rfl) (fun _ _ _ h => h) (by rfl) hS ?_
    simp only [List.setIfInBounds_toArray, List.set_cons_zero, List.set_cons_succ]
    refine wpAnyL_skip (i := 15) 148 rfl rfl (by kernel_rfl) (by kernel_rfl) (by kernel_rfl) (by kernel_rfl) (fun _ _ _ h => h) (by rfl) hS ?_
    simp only [List.setIfInBounds_toArray, List.set_cons_zero, List.set_cons_succ]
    refine wpAnyL_skip (i := 16) 149 rfl rfl (by kernel_rfl) (by kernel_rfl) (by kernel_rfl) (by kernel_rfl) (fun _ _ _ h => h) (by rfl) hS ?_
    simp only [List.setIfInBounds_toArray, List.set_cons_zero, List.set_cons_succ]
    refine wpAnyL_skip (i := 17) 150 rfl rfl (by kernel_rfl) (by kernel_rfl) (by kernel_rfl) (by kernel_rfl) (fun _ _ _ h => h) (by rfl) hS ?_
    simp only [List.setIfInBounds_toArray, List.set_cons_zero, List.set_cons_succ]
    refine wpAnyL_skip (i := 18) 151 rfl rfl (by kernel_rfl) (by kernel_rfl) (by kernel_rfl) (by kernel_rfl) (fun _ _ _ h => h) (by rfl) hS ?_
    simp only [List.setIfInBounds_toArray, List.set_cons_zero, List.set_cons_succ]
    refine wpAnyL_skip (i := 19) 152 rfl rfl (by kernel_rfl) (by kernel_rfl) (by kernel_rfl) (by kernel_rfl) (fun _ _ _ h => h) (by rfl) hS ?_
    simp only [List.setIfInBounds_toArray, List.set_cons_zero, List.set_cons_succ]
    refine wpAnyL_skip (i := 20) 153 rfl rfl (by kernel_rfl) (by kernel_rfl) (by kernel_rfl) (by kernel_rfl) (fun _ _ _ h => h) (by rfl) hS ?_
    simp only [List.setIfInBounds_toArray, List.set_cons_zero, List.set_cons_succ]
    refine wpAnyL_skip (i := 21) 154 rfl rfl (by kernel_rfl) (by kernel_rfl) (by kernel_rfl) (by kernel_rfl) (fun _ _ _ h => h) (by rfl) hS ?_
    simp only [List.setIfInBounds_toArray, List.set_cons_zero, List.set_cons_succ]
    refine wpAnyL_skip (i := 22) 155 rfl rfl (by kernel_rfl) (by kernel_rfl) (by kernel_rfl) (by kernel_rfl) (fun _ _ _ h => h) (by rfl) hS ?_
    simp only [List.setIfInBounds_toArray, List.set_cons_zero, List.set_cons_succ]
    refine wpAnyL_takeE (i := 23) 156 rfl rfl (by kernel_rfl) (by kernel_rfl) (by kernel_rfl) (by kernel_rfl) (fun _ _ _ _ h => h) (by rfl) hS ?_
    apply Exists.intro
    refine ⟨fun w' hSw => ?_, ?_⟩
    · obtain ⟨s1, s2, s3, s4⟩ := hSw
      go_simp <;> with_reducible rfl
    simp only [List.setIfInBounds_toArray, List.set_cons_zero, List.set_cons_succ]
    refine wpAnyL_one (i := 24) (by kernel_rfl) rfl (fun K1 hK1 => ?_)
    go_simp
    have hout := H8.out.out
    have hoc : ∀ b o u, b ≠ w.heap.size + 1 → w8.cell? ⟨b, o, none⟩ = some u → (set4 w8 (w.heap.size + 1) 0 i t x).cell? ⟨b, o, none⟩ = some u := fun b o u hb hc => set4_cell hb hc
    have hS2 : ((set4 w8 (w.heap.size + 1) 0 i t x).cell? ⟨w.heap.size, 0, none⟩ = some (.int .i64 0) ∧ (set4 w8 (w.heap.size + 1) 0 i t x).cell? ⟨w.heap.size, 1, none⟩ = some (.int .i64 i) ∧ (set4 w8 (w.heap.size + 1) 0 i t x).cell? ⟨w.heap.size, 2, none⟩ = some (.int .i64 t) ∧ (set4 w8 (w.heap.size + 1) 0 i t x).cell? ⟨w.heap.size, 3, none⟩ = some (.int .i64 x)) := ⟨hoc _ _ _ (by omega) hS.1, hoc _ _ _ (by omega) hS.2.1, hoc _ _ _ (by omega) hS.2.2.1, hoc _ _ _ (by omega) hS.2.2.2⟩
    have HOUT := Lib.hid hout
    refine hK1.out _ (set4 w8 (w.heap.size + 1) 0 i t x) (fun _ => hS2) ?_
    clear hK1 K1 hout hoc hS hS2 f0 f1 f2 f3 g0 g1 g2 g3 z1 H8
    try simp only [List.setIfInBounds_toArray, List.set_cons_zero, List.set_cons_succ]
    refine wpAnyL_one (i := 25) (by kernel_rfl) rfl (fun K1 hK1 => ?_)
    go_simp
    refine hK1.out _ _ (fun h => absurd rfl h) ?_
    clear hK1 K1
    refine wpAnyL_done (by kernel_rfl) ?_ _
    go_wp2_with fail
    refine bodyPost_ret_by (results_fit rfl rfl HOUT.out.2 rfl) rfl ?_
    exact ⟨true, rfl, HOUT.out.1, fun _ => ⟨⟨by simp, hin, htn, hxn, fun h => absurd h (by simp), fun h => absurd h (by simp)⟩, fun _ _ => ⟨HAB.out, fun hm => by first | (cases hm; done) | exact HM.out trivial | exact HM.out hm⟩⟩⟩

set_option maxRecDepth 100000 in
set_option maxHeartbeats 3200000 in
theorem fit_1 (h : GR w n a pb pc kb kc T K) (hn0 : 0 < n) (hn : n ≤ 1000) {k0 i0 t0 x0 : Int} {m : Bool} {i t x : Nat} (hk : k0 % 6 = 1) (hi : i0 % n = i) (ht : t0 % n = t) (hx : x0 % n = x)
    (hin : i < n) (htn : t < n) (hxn : x < n) :
    Calls Try.prog 24 #[.pointer (some ⟨a, 0, none⟩), .agg #[.int .i64 k0, .int .i64 i0, .int .i64 t0, .int .i64 x0], .bool m] w (FitPost w n T m 1 i t x) := by
  have h0 := FitSt.start h k0 i0 t0 x0
  have c0 := h0.gr.c0
  have H := Lib.hid h
  have H0 := Lib.hid h0
  have HK := Lib.hid (And.intro hk (And.intro hi (And.intro ht hx)))
  clear h h0 hk hi ht hx
  go_enter Try.func24, Try.ntmps24
  go_wp2_with fail
  obtain ⟨w0, hw0⟩ : ∃ w0, (w.alloc (.cells #[.int .i64 k0, .int .i64 i0, .int .i64 t0, .int .i64 x0] 28 (0, 0))).alloc (.cells #[.int .i64 0, .int .i64 0, .int .i64 0, .int .i64 0] 28 (0, 0)) = w0 := ⟨_, rfl⟩
  rw [hw0] at H0 ⊢
  obtain ⟨f0, f1, f2, f3⟩ := H0.out.cells
  have z0 := H0.out.soft
  clear hw0 c0
  have d : ∀ z : Int, Calls Try.prog 30 #[.int .i64 z, .int .i64 n] w0.drew fun e w'' => e = .returned (.int .i64 (z % n)) ∧ w'' = w0.drew := fun z => (mod_c z n hn0 hn _).mono fun e w'' h => ⟨h.1, h.2.symm⟩
  have d6 : ∀ z : Int, Calls Try.prog 30 #[.int .i64 z, .int .i64 6] w0.drew fun e w'' => e = .returned (.int .i64 (z % 6)) ∧ w'' = w0.drew := fun z => (mod_c z 6 (by decide) (by decide) _).mono fun e w'' h => ⟨h.1, h.2.symm⟩
  go_still_tail 16, (by kernel_rfl)
  still_call (d6 _)
  repeat still_step
  still_call (d _)
  repeat still_step
  still_call (d _)
  repeat still_step
  still_call (d _)
  repeat still_step
  refine wpStill_nil ?_
  clear d d6
  change wpList _ _ _ _ _ w0.drew
  obtain ⟨w2, hw2⟩ : ∃ w2, w0.drew = w2 := ⟨_, rfl⟩
  have H2 := Lib.hid H0.out.drew
  rw [hw2] at H2 ⊢
  clear hw2 H0 f0 f1 f2 f3 z0
  obtain ⟨f0, f1, f2, f3⟩ := H2.out.cells
  have z0 := H2.out.soft
  simp only [HK.out.1, HK.out.2.1, HK.out.2.2.1, HK.out.2.2.2]
  go_upto_region 3 with (fail)
  change Code.wp _ _ _ _ (set4 w2 w.heap.size 1 i t x)
  obtain ⟨w3, hw3⟩ : ∃ w3, set4 w2 w.heap.size 1 i t x = w3 := ⟨_, rfl⟩
  have H3 := Lib.hid (FitSt.put H.out H2.out 1 i t x)
  rw [hw3] at H3 ⊢
  clear hw3 f0 f1 f2 f3 z0 H2
  obtain ⟨f0, f1, f2, f3⟩ := H3.out.cells
  obtain ⟨r0, r1, r2, r3, g0, g1, g2, g3⟩ := H3.out.rcells
  have z1 := H3.out.soft1
  go_wp2_with fail
  have hout := H3.out.out
  refine bodyPost_ret_by (results_fit rfl rfl hout.2 rfl) rfl ?_
  exact ⟨true, rfl, hout.1, fun _ => ⟨⟨by simp, hin, htn, hxn, fun h => absurd h (by simp), fun h => absurd h (by simp)⟩, fun h1 h2 => absurd rfl (by first | exact h1 | exact h2)⟩⟩

set_option maxRecDepth 100000 in
set_option maxHeartbeats 3200000 in
theorem fit_2 (h : GR w n a pb pc kb kc T K) (hn0 : 0 < n) (hn : n ≤ 1000) {k0 i0 t0 x0 : Int} {m : Bool} {i t x : Nat} (hk : k0 % 6 = 2) (hi : i0 % n = i) (ht : t0 % n = t) (hx : x0 % n = x)
    (hin : i < n) (htn : t < n) (hxn : x < n) :
    Calls Try.prog 24 #[.pointer (some ⟨a, 0, none⟩), .agg #[.int .i64 k0, .int .i64 i0, .int .i64 t0, .int .i64 x0], .bool m] w (FitPost w n T m 2 i t x) := by
  have h0 := FitSt.start h k0 i0 t0 x0
  have c0 := h0.gr.c0
  have H := Lib.hid h
  have H0 := Lib.hid h0
  have HK := Lib.hid (And.intro hk (And.intro hi (And.intro ht hx)))
  clear h h0 hk hi ht hx
  go_enter Try.func24, Try.ntmps24
  go_wp2_with fail
  obtain ⟨w0, hw0⟩ : ∃ w0, (w.alloc (.cells #[.int .i64 k0, .int .i64 i0, .int .i64 t0, .int .i64 x0] 28 (0, 0))).alloc (.cells #[.int .i64 0, .int .i64 0, .int .i64 0, .int .i64 0] 28 (0, 0)) = w0 := ⟨_, rfl⟩
  rw [hw0] at H0 ⊢
  obtain ⟨f0, f1, f2, f3⟩ := H0.out.cells
  have z0 := H0.out.soft
  clear hw0 c0
  have d : ∀ z : Int, Calls Try.prog 30 #[.int .i64 z, .int .i64 n] w0.drew fun e w'' => e = .returned (.int .i64 (z % n)) ∧ w'' = w0.drew := fun z => (mod_c z n hn0 hn _).mono fun e w'' h => ⟨h.1, h.2.symm⟩
  have d6 : ∀ z : Int, Calls Try.prog 30 #[.int .i64 z, .int .i64 6] w0.drew fun e w'' => e = .returned (.int .i64 (z % 6)) ∧ w'' = w0.drew := fun z => (mod_c z 6 (by decide) (by decide) _).mono fun e w'' h => ⟨h.1, h.2.symm⟩
  go_still_tail 16, (by kernel_rfl)
  still_call (d6 _)
  repeat still_step
  still_call (d _)
  repeat still_step
  still_call (d _)
  repeat still_step
  still_call (d _)
  repeat still_step
  refine wpStill_nil ?_
  clear d d6
  change wpList _ _ _ _ _ w0.drew
  obtain ⟨w2, hw2⟩ : ∃ w2, w0.drew = w2 := ⟨_, rfl⟩
  have H2 := Lib.hid H0.out.drew
  rw [hw2] at H2 ⊢
  clear hw2 H0 f0 f1 f2 f3 z0
  obtain ⟨f0, f1, f2, f3⟩ := H2.out.cells
  have z0 := H2.out.soft
  simp only [HK.out.1, HK.out.2.1, HK.out.2.2.1, HK.out.2.2.2]
  go_upto_region 3 with (fail)
  change Code.wp _ _ _ _ (set4 w2 w.heap.size 2 i t x)
  obtain ⟨w3, hw3⟩ : ∃ w3, set4 w2 w.heap.size 2 i t x = w3 := ⟨_, rfl⟩
  have H3 := Lib.hid (FitSt.put H.out H2.out 2 i t x)
  rw [hw3] at H3 ⊢
  clear hw3 f0 f1 f2 f3 z0 H2
  obtain ⟨f0, f1, f2, f3⟩ := H3.out.cells
  obtain ⟨r0, r1, r2, r3, g0, g1, g2, g3⟩ := H3.out.rcells
  have z1 := H3.out.soft1
  go_wp2_with fail
  have hout := H3.out.out
  refine bodyPost_ret_by (results_fit rfl rfl hout.2 rfl) rfl ?_
  exact ⟨true, rfl, hout.1, fun _ => ⟨⟨by simp, hin, htn, hxn, fun h => absurd h (by simp), fun h => absurd h (by simp)⟩, fun h1 h2 => absurd rfl (by first | exact h1 | exact h2)⟩⟩
end
end Go.Proofs.Ytlggpodblabmdaa
