/-
  The reference's Fit at the kind 5, and whole; a lemma text, no statement of the seat.
-/
import Derived.Test.YtlggpodblabmdaaFitM
namespace Go.Proofs.Ytlggpodblabmdaa
open Go.RowKit
section
variable {w w1 w2 : World} {n a pb pc kb kc : Nat} {T T' : Gr} {K : Nat → Value} {k i t x : Int}

set_option maxRecDepth 100000 in
set_option maxHeartbeats 3200000 in
theorem fit_5 (h : GR w n a pb pc kb kc T K) (hwf : WF n T) (hac : Acyc T) (hn0 : 0 < n) (hn : n ≤ 1000) {k0 i0 t0 x0 : Int} {m : Bool} {i t x : Nat} (hk : k0 % 6 = 5) (hi : i0 % n = i) (ht : t0 % n = t) (hx : x0 % n = x)
    (hin : i < n) (htn : t < n) (hxn : x < n) :
    Calls Try.prog 24 #[.pointer (some ⟨a, 0, none⟩), .agg #[.int .i64 k0, .int .i64 i0, .int .i64 t0, .int .i64 x0], .bool m] w (FitPost w n T m 5 i t x) := by
  have h0 := FitSt.start h k0 i0 t0 x0
  have c0 := h0.gr.c0
  have H := Lib.hid h
  have H0 := Lib.hid h0
  have HK := Lib.hid (And.intro hk (And.intro hi (And.intro ht hx)))
  clear h h0 hk hi ht hx
  have HWF := Lib.hid hwf
  have HAC := Lib.hid hac
  clear hwf hac
  go_enter Try.func24, Try.ntmps24
  go_wp2_with fail
  obtain ⟨w0, hw0⟩ : ∃ w0, (w.alloc (.cells #[.int .i64 k0, .int .i64 i0, .int .i64 t0, .int .i64 x0] 28 (0, 0))).alloc (.cells #[.int .i64 0, .int .i64 0, .int .i64 0, .int .i64 0] 28 (0, 0)) = w0 := ⟨_, rfl⟩
  rw [hw0] at H0 ⊢
  obtain ⟨f0, f1, f2, f3⟩ := H0.out.cells
  have z0 := H0.out.soft
  clear hw0 c0
  have d : ∀ z : Int, Calls Try.prog 30 #[.int .i64 z, .int .i64 n] w0.drew fun e w'' => e = .returned (.int .i64 (z % n)) ∧ w'' = w0.drew := fun z => (mod_c z n hn0 hn _).mono fun e w'' h => ⟨h.1, h.2.symm⟩
  have d6 : ∀ z : Int, Calls Try.prog 30 #[.int .i64 z, .int .i64 6] w0.drew fun e w'' => e = .returned (.int .i64 (z % 6)) ∧ w'' = w0.drew := fun z => (mod_c z 6 (by decide) (by decide) _).mono fun e w'' h => ⟨h.1, h.2.symm⟩
  go_still_tail 16, (by kernel_rfl)
  still_call (d6 _)
  repeat still_step
  still_call (d _)
  repeat still_step
  still_call (d _)
  repeat still_step
  still_call (d _)
  repeat still_step
  refine wpStill_nil ?_
  clear d d6
  change wpList _ _ _ _ _ w0.drew
  obtain ⟨w2, hw2⟩ : ∃ w2, w0.drew = w2 := ⟨_, rfl⟩
  have H2 := Lib.hid H0.out.drew
  rw [hw2] at H2 ⊢
  clear hw2 H0 f0 f1 f2 f3 z0
  obtain ⟨f0, f1, f2, f3⟩ := H2.out.cells
  have z0 := H2.out.soft
  simp only [HK.out.1, HK.out.2.1, HK.out.2.2.1, HK.out.2.2.2]
  go_upto_region 3 with (fail)
  change Code.wp _ _ _ _ (set4 w2 w.heap.size 5 i t x)
  obtain ⟨w3, hw3⟩ : ∃ w3, set4 w2 w.heap.size 5 i t x = w3 := ⟨_, rfl⟩
  have H3 := Lib.hid (FitSt.put H.out H2.out 5 i t x)
  rw [hw3] at H3 ⊢
  clear hw3 f0 f1 f2 f3 z0 H2
  obtain ⟨f0, f1, f2, f3⟩ := H3.out.cells
  obtain ⟨r0, r1, r2, r3, g0, g1, g2, g3⟩ := H3.out.rcells
  have z1 := H3.out.soft1
  go_wp2_with fail
  have hi0 : (0 : Int) ≤ (i : Int) := Int.natCast_nonneg _
  have hi1 : (i : Int) < (n : Int) := by omega
  have hx0 : (0 : Int) ≤ (x : Int) := Int.natCast_nonneg _
  have hx1 : (x : Int) < (n : Int) := by omega
  have ht0 : (0 : Int) ≤ (t : Int) := Int.natCast_nonneg _
  have ht1 : (t : Int) < (n : Int) := by omega
  by_cases hab : Ab T x i
  · have HAB := Lib.hid hab
    clear hab
    go_quiet (exact Calls.quiet_of_same (above_yes (H3.out.drewN _).gr HWF.out HAC.out hin HAB.out))
    obtain ⟨w4, hw4⟩ : ∃ w4, w3.drewN nq = w4 := ⟨_, rfl⟩
    have H4 := Lib.hid (H3.out.drewN nq)
    rw [hw4] at H4 ⊢
    clear hw4 f0 f1 f2 f3 g0 g1 g2 g3 z1 H3
    obtain ⟨f0, f1, f2, f3⟩ := H4.out.cells
    obtain ⟨r0, r1, r2, r3, g0, g1, g2, g3⟩ := H4.out.rcells
    have z1 := H4.out.soft1
    go_wp2_with fail
    have hout := H4.out.out
    refine bodyPost_ret_by (results_fit rfl rfl hout.2 rfl) rfl ?_
    exact ⟨false, rfl, hout.1, fun h => by cases h⟩
  have HAB := Lib.hid hab
  clear hab
  obtain ⟨o, ho⟩ : ∃ o, T.par x = o := ⟨_, rfl⟩
  have c0 := H3.out.gr.c0
  have c1 := H3.out.gr.c1
  have cx := H3.out.gr.par_at hxn
  rw [ho] at cx
  have HO := Lib.hid ho
  clear ho
  cases m
  case' false =>
    cases o
    case' some p =>
      have hp0 : (0 : Int) ≤ (p : Int) := Int.natCast_nonneg _
      simp only [pn] at cx
      go_quiet (exact Calls.quiet_of_same (above_no (H3.out.drewN _).gr HWF.out HAC.out hin HAB.out))
      obtain ⟨w4, hw4⟩ : ∃ w4, w3.drewN nq = w4 := ⟨_, rfl⟩
      have H4 := Lib.hid (H3.out.drewN nq)
      rw [hw4] at H4 ⊢
      clear hw4 f0 f1 f2 f3 g0 g1 g2 g3 z1 H3
      obtain ⟨f0, f1, f2, f3⟩ := H4.out.cells
      obtain ⟨r0, r1, r2, r3, g0, g1, g2, g3⟩ := H4.out.rcells
      have z1 := H4.out.soft1
      go_wp2_with fail
      have hout := H4.out.out
      refine bodyPost_ret_by (results_fit rfl rfl hout.2 rfl) rfl ?_
      exact ⟨false, rfl, hout.1, fun h => by cases h⟩
    have HM := Lib.hid (show (false = false → T.par x = none) from fun _ => HO.out)
    simp only [pn] at cx
  case' true =>
    have HM := Lib.hid (show (true = false → T.par x = none) from fun h => by cases h)
  all_goals
    go_quiet (exact Calls.quiet_of_same (above_no (H3.out.drewN _).gr HWF.out HAC.out hin HAB.out))
    obtain ⟨w4, hw4⟩ : ∃ w4, w3.drewN nq = w4 := ⟨_, rfl⟩
    have H4 := Lib.hid (H3.out.drewN nq)
    rw [hw4] at H4 ⊢
    clear hw4 f0 f1 f2 f3 g0 g1 g2 g3 z1 H3
    obtain ⟨f0, f1, f2, f3⟩ := H4.out.cells
    obtain ⟨r0, r1, r2, r3, g0, g1, g2, g3⟩ := H4.out.rcells
    have z1 := H4.out.soft1
    clear c0 c1 cx HO
    have c0 := H4.out.gr.c0
    have c1 := H4.out.gr.c1
    have ck := H4.out.gr.kid_at hin
    go_wp2_with fail
    obtain ⟨g, ao, cap, hvv, hcap, hs⟩ := own_shape (H4.out.gr.row i hin)
    have hlen := HWF.out.lens hn i
    rw [hvv] at ck
    have HK4 := Lib.hid hvv
    by_cases hnil : T.kids i = []
    · have hl0 : (T.kids i).length = 0 := by rw [hnil]; rfl
      rw [hl0] at ck
      clear hvv hcap hs hnil hl0 hlen
      go_quiet (fail)
      obtain ⟨w5, hw5⟩ : ∃ w5, w4.drewN nq = w5 := ⟨_, rfl⟩
      have H5 := Lib.hid (H4.out.drewN nq)
      rw [hw5] at H5 ⊢
      clear hw5 f0 f1 f2 f3 g0 g1 g2 g3 z1 H4
      obtain ⟨f0, f1, f2, f3⟩ := H5.out.cells
      obtain ⟨r0, r1, r2, r3, g0, g1, g2, g3⟩ := H5.out.rcells
      have z1 := H5.out.soft1
      clear c0 c1 ck
      go_wp2_with fail
      go_quiet (fail)
      obtain ⟨w6, hw6⟩ : ∃ w6, w5.drewN nq = w6 := ⟨_, rfl⟩
      have H6 := Lib.hid (H5.out.drewN nq)
      rw [hw6] at H6 ⊢
      have HW6 := Lib.hid hw6
      clear hw6 f0 f1 f2 f3 g0 g1 g2 g3 z1 H5
      obtain ⟨f0, f1, f2, f3⟩ := H6.out.cells
      obtain ⟨r0, r1, r2, r3, g0, g1, g2, g3⟩ := H6.out.rcells
      have z1 := H6.out.soft1
      go_wp2_with fail
      have hout := H6.out.out
      refine bodyPost_ret_by (results_fit rfl rfl hout.2 rfl) rfl ?_
      exact ⟨false, rfl, hout.1, fun h => by cases h⟩
    have hpos : 0 < (T.kids i).length := by cases hh : T.kids i with | nil => exact absurd hh hnil | cons => simp
    obtain ⟨rfl, hg, -, hcell⟩ := hs hpos
    obtain ⟨l, hl⟩ : ∃ l, (T.kids i)[(T.kids i).length - 1]? = some l := ⟨_, List.getElem?_eq_getElem (by omega)⟩
    have hks : ∀ (j y : Nat), (T.kids i)[j]? = some y → w4.cell? ⟨g, j, none⟩ = some (.int .i64 (y : Int)) := fun j y hy => by
      have := (List.getElem?_eq_some_iff.1 hy).1
      rw [hcell j (by omega)]; simp [ints, hy]
    have hg1 := hks _ _ hl
    have HKS := Lib.hid hks
    have HL := Lib.hid hl
    obtain ⟨len, hlen'⟩ : ∃ len, (T.kids i).length = len := ⟨_, rfl⟩
    rw [hlen'] at ck hg1 hpos hlen
    have HLEN := Lib.hid hlen'
    have hw1 : IntKind.i64.wrap ((len : Int) - 1) = (len : Int) - 1 := IntWalk.i64_in _ (by omega)
    have hl1 : (0 : Int) ≤ (len : Int) - 1 := by omega
    have hl1' : (1 : Int) ≤ (len : Int) := by omega
    have hl2 : ((len : Int) - 1).toNat = len - 1 := by omega
    have hl3 : (len : Int) - 1 < (len : Int) := by omega
    have hl4 : ((len : Int) == 0) = false := beq_eq_false_iff_ne.2 (by omega)
    clear hks hl hlen' hcell hs hvv hnil hcap
    go_quiet (fail)
    obtain ⟨w5, hw5⟩ : ∃ w5, w4.drewN nq = w5 := ⟨_, rfl⟩
    have H5 := Lib.hid (H4.out.drewN nq)
    rw [hw5] at H5 ⊢
    have HW5 := Lib.hid hw5
    clear hw5 f0 f1 f2 f3 g0 g1 g2 g3 z1 H4
    obtain ⟨f0, f1, f2, f3⟩ := H5.out.cells
    obtain ⟨r0, r1, r2, r3, g0, g1, g2, g3⟩ := H5.out.rcells
    have z1 := H5.out.soft1
    have hg1' : w5.cell? ⟨g, len - 1, none⟩ = some (.int .i64 (l : Int)) := by rw [← HW5.out]; exact hg1
    clear c0 c1 ck hg1
    go_wp2_with fail
    by_cases e1 : l = t
    · subst e1
      go_quiet (fail)
      obtain ⟨w6, hw6⟩ : ∃ w6, w5.drewN nq = w6 := ⟨_, rfl⟩
      have H6 := Lib.hid (H5.out.drewN nq)
      rw [hw6] at H6 ⊢
      have HW6 := Lib.hid hw6
      clear hw6 f0 f1 f2 f3 g0 g1 g2 g3 z1 H5
      obtain ⟨f0, f1, f2, f3⟩ := H6.out.cells
      obtain ⟨r0, r1, r2, r3, g0, g1, g2, g3⟩ := H6.out.rcells
      have z1 := H6.out.soft1
      go_wp2_with fail
      have hout := H6.out.out
      refine bodyPost_ret_by (results_fit rfl rfl hout.2 rfl) rfl ?_
      exact ⟨false, rfl, hout.1, fun h => by cases h⟩
    have e1' : ((l : Int) == (t : Int)) = false := beq_eq_false_iff_ne.2 (by omega)
    have HE1 := Lib.hid e1
    clear e1
    by_cases e2 : l = x
    · subst e2
      go_quiet (fail)
      obtain ⟨w6, hw6⟩ : ∃ w6, w5.drewN nq = w6 := ⟨_, rfl⟩
      have H6 := Lib.hid (H5.out.drewN nq)
      rw [hw6] at H6 ⊢
      have HW6 := Lib.hid hw6
      clear hw6 f0 f1 f2 f3 g0 g1 g2 g3 z1 H5
      obtain ⟨f0, f1, f2, f3⟩ := H6.out.cells
      obtain ⟨r0, r1, r2, r3, g0, g1, g2, g3⟩ := H6.out.rcells
      have z1 := H6.out.soft1
      go_wp2_with fail
      have hout := H6.out.out
      refine bodyPost_ret_by (results_fit rfl rfl hout.2 rfl) rfl ?_
      exact ⟨false, rfl, hout.1, fun h => by cases h⟩
    have e2' : ((l : Int) == (x : Int)) = false := beq_eq_false_iff_ne.2 (by omega)
    clear e2
    go_quiet (fail)
    obtain ⟨w6, hw6⟩ : ∃ w6, w5.drewN nq = w6 := ⟨_, rfl⟩
    have H6 := Lib.hid (H5.out.drewN nq)
    rw [hw6] at H6 ⊢
    have HW6 := Lib.hid hw6
    clear hw6 f0 f1 f2 f3 g0 g1 g2 g3 z1 H5
    obtain ⟨f0, f1, f2, f3⟩ := H6.out.cells
    obtain ⟨r0, r1, r2, r3, g0, g1, g2, g3⟩ := H6.out.rcells
    have z1 := H6.out.soft1
    clear e1' e2' hg1' hw1 hl1 hl1' hl2 hl3 hl4
    go_wp2_with fail
    refine (placeG_c H6.out.gr (HWF.out.lens hn) hin t).mono ?_
    rintro e w7 ⟨rfl, rfl⟩
    by_cases hpt : T.par t = some i
    · rw [plc_some HWF.out hpt]
      obtain ⟨y, hy, hny⟩ := last_ne HWF.out hpt HL.out HE1.out
      have hplt := (List.getElem?_eq_some_iff.1 hy).1
      have hyc : w6.cell? ⟨g, T.place i t + 1, none⟩ = some (.int .i64 (y : Int)) := by rw [← HW6.out, ← HW5.out]; exact HKS.out _ _ hy
      obtain ⟨pl, hpl⟩ : ∃ pl, T.place i t = pl := ⟨_, rfl⟩
      rw [hpl] at hyc hplt ⊢
      rw [HLEN.out] at hplt
      have hck := H6.out.gr.kid_at hin
      have hc0 := H6.out.gr.c0
      have hc1 := H6.out.gr.c1
      rw [HK4.out, HLEN.out] at hck
      have hp0 : (0 : Int) ≤ (pl : Int) := Int.natCast_nonneg _
      have hp1 : IntKind.i64.wrap ((pl : Int) + 1) = (pl : Int) + 1 := IntWalk.i64_in _ (by omega)
      have hp2 : (0 : Int) ≤ (pl : Int) + 1 := by omega
      have hp3 : ((pl : Int) + 1).toNat = pl + 1 := by omega
      have hp4 : (pl : Int) + 1 < (len : Int) := by omega
      have HPT := Lib.hid hpt
      have HNY := Lib.hid hny
      clear hy hny hpt hplt hpl
      go_wp2_with fail
      by_cases e3 : y = x
      · subst e3
        go_quiet (fail)
        obtain ⟨w7, hw7⟩ : ∃ w7, w6.drewN nq = w7 := ⟨_, rfl⟩
        have H7 := Lib.hid (H6.out.drewN nq)
        rw [hw7] at H7 ⊢
        clear hw7 f0 f1 f2 f3 g0 g1 g2 g3 z1 H6
        obtain ⟨f0, f1, f2, f3⟩ := H7.out.cells
        obtain ⟨r0, r1, r2, r3, g0, g1, g2, g3⟩ := H7.out.rcells
        have z1 := H7.out.soft1
        go_wp2_with fail
        have hout := H7.out.out
        refine bodyPost_ret_by (results_fit rfl rfl hout.2 rfl) rfl ?_
        exact ⟨false, rfl, hout.1, fun h => by cases h⟩
      have e3' : ((y : Int) == (x : Int)) = false := beq_eq_false_iff_ne.2 (by omega)
      have HE3 := Lib.hid e3
      clear e3
      go_quiet (fail)
      obtain ⟨w7, hw7⟩ : ∃ w7, w6.drewN nq = w7 := ⟨_, rfl⟩
      have H7 := Lib.hid (H6.out.drewN nq)
      rw [hw7] at H7 ⊢
      clear hw7 f0 f1 f2 f3 g0 g1 g2 g3 z1 H6
      obtain ⟨f0, f1, f2, f3⟩ := H7.out.cells
      obtain ⟨r0, r1, r2, r3, g0, g1, g2, g3⟩ := H7.out.rcells
      have z1 := H7.out.soft1
      clear hyc hck hc0 hc1 hp0 hp1 hp2 hp3 hp4 e3'
      go_wp2_with fail
      have ct := H7.out.gr.par_at htn
      have c0 := H7.out.gr.c0
      rw [HPT.out] at ct
      simp only [pn] at ct
      by_cases e4 : t = x
      · have e4' : ((t : Int) == (x : Int)) = true := by simp [e4]
        have e4'' : ((t : Int) != (x : Int)) = false := by simp [e4]
        clear e4
        obtain ⟨w8, hw8⟩ : ∃ w8, w7.drew = w8 := ⟨_, rfl⟩
        refine wp_region_lastD (fun w' => w'.cell? ⟨w.heap.size, 0, none⟩ = some (.int .i64 5) ∧ w'.cell? ⟨w.heap.size, 1, none⟩ = some (.int .i64 i) ∧ w'.cell? ⟨w.heap.size, 2, none⟩ = some (.int .i64 t) ∧ w'.cell? ⟨w.heap.size, 3, none⟩ = some (.int .i64 x) ∧ w'.cell? ⟨a, 0, none⟩ = some (.slice (some ⟨pb, 0, none⟩) n pc) ∧ w'.cell? ⟨pb, t, none⟩ = some (.int .i64 i)) 25 (by kernel_rfl) hw8 ?_
        have H8 := Lib.hid H7.out.drew
        rw [hw8] at H8
        clear hw8 f0 f1 f2 f3 g0 g1 g2 g3 z1 H7
        obtain ⟨f0, f1, f2, f3⟩ := H8.out.cells
        obtain ⟨r0, r1, r2, r3, g0, g1, g2, g3⟩ := H8.out.rcells
        have z1 := H8.out.soft1
        have ct' := H8.out.gr.par_at htn
        have c0' := H8.out.gr.c0
        rw [HPT.out] at ct'
        simp only [pn] at ct'
        clear ct c0
        have hS : (w8.cell? ⟨w.heap.size, 0, none⟩ = some (.int .i64 5) ∧ w8.cell? ⟨w.heap.size, 1, none⟩ = some (.int .i64 i) ∧ w8.cell? ⟨w.heap.size, 2, none⟩ = some (.int .i64 t) ∧ w8.cell? ⟨w.heap.size, 3, none⟩ = some (.int .i64 x) ∧ w8.cell? ⟨a, 0, none⟩ = some (.slice (some ⟨pb, 0, none⟩) n pc) ∧ w8.cell? ⟨pb, t, none⟩ = some (.int .i64 i)) := ⟨f0, f1, f2, f3, c0', ct'⟩
        clear c0' ct'
        refine wpAnyL_takeE (i := 0) 133 rfl rfl (by kernel_rfl) (by kernel_rfl) (by kernel_rfl) (by kernel_rfl) (fun _ _ _ _ h => h) (by rfl) hS ?_
        apply Exists.intro
        refine ⟨fun w' hSw => ?_, ?_⟩
        · obtain ⟨s1, s2, s3, s4, s5, s6⟩ := hSw
          go_simp <;> with_reducible rfl
        simp only [List.setIfInBounds_toArray, List.set_cons_zero, List.set_cons_succ]
        refine wpAnyL_takeE (i := 1) 134 rfl rfl (by kernel_rfl) (by kernel_rfl) (by kernel_rfl) (by kernel_rfl) (fun _ _ _ _ h => h) (by rfl) hS ?_
        apply Exists.intro
        refine ⟨fun w' hSw => ?_, ?_⟩
        · obtain ⟨s1, s2, s3, s4, s5, s6⟩ := hSw
          go_simp <;> with_reducible rfl
        simp only [List.setIfInBounds_toArray, List.set_cons_zero, List.set_cons_succ]
        refine wpAnyL_takeE (i := 2) 135 rfl rfl (by kernel_rfl) (by kernel_rfl) (by kernel_rfl) (by kernel_rfl) (fun _ _ _ _ h => h) (by rfl) hS ?_
        apply Exists.intro
        refine ⟨fun w' hSw => ?_, ?_⟩
        · obtain ⟨s1, s2, s3, s4, s5, s6⟩ := hSw
          go_simp <;> with_reducible rfl
        simp only [List.setIfInBounds_toArray, List.set_cons_zero, List.set_cons_succ]
        refine wpAnyL_takeE (i := 3) 136 rfl rfl (by kernel_rfl) (by kernel_rfl) (by kernel_rfl) (by kernel_rfl) (fun _ _ _ _ h => h) (by rfl) hS ?_
        apply Exists.intro
        refine ⟨fun w' hSw => ?_, ?_⟩
        · obtain ⟨s1, s2, s3, s4, s5, s6⟩ := hSw
          go_simp <;> with_reducible rfl
        simp only [List.setIfInBounds_toArray, List.set_cons_zero, List.set_cons_succ]
        refine wpAnyL_takeE (i := 4) 137 rfl rfl (by kernel_rfl) (by kernel_rfl) (by kernel_rfl) (by kernel_rfl) (fun _ _ _ _ h => h) (by rfl) hS ?_
        apply Exists.intro
        refine ⟨fun w' hSw => ?_, ?_⟩
        · obtain ⟨s1, s2, s3, s4, s5, s6⟩ := hSw
          go_simp <;> with_reducible rfl
        simp only [List.setIfInBounds_toArray, List.set_cons_zero, List.set_cons_succ]
        refine wpAnyL_takeE (i := 5) 138 rfl rfl (by kernel_rfl) (by kernel_rfl) (by kernel_rfl) (by kernel_rfl) (fun _ _ _ _ h => h) (by rfl) hS ?_
        apply Exists.intro
        refine ⟨fun w' hSw => ?_, ?_⟩
        · obtain ⟨s1, s2, s3, s4, s5, s6⟩ := hSw
          go_simp <;> with_reducible rfl
        simp only [List.setIfInBounds_toArray, List.set_cons_zero, List.set_cons_succ]
        refine wpAnyL_takeE (i := 6) 139 rfl rfl (by kernel_rfl) (by kernel_rfl) (by kernel_rfl) (by kernel_rfl) (fun _ _ _ _ h => h) (by rfl) hS ?_
        apply Exists.intro
        refine ⟨fun w' hSw => ?_, ?_⟩
        · obtain ⟨s1, s2, s3, s4, s5, s6⟩ := hSw
          go_simp <;> with_reducible rfl
        simp only [List.setIfInBounds_toArray, List.set_cons_zero, List.set_cons_succ]
        refine wpAnyL_takeE (i := 7) 140 rfl rfl (by kernel_rfl) (by kernel_rfl) (by kernel_rfl) (by kernel_rfl) (fun _ _ _ _ h => h) (by rfl) hS ?_
        apply Exists.intro
        refine ⟨fun w' hSw => ?_, ?_⟩
        · obtain ⟨s1, s2, s3, s4, s5, s6⟩ := hSw
          go_simp <;> with_reducible rfl
        simp only [List.setIfInBounds_toArray, List.set_cons_zero, List.set_cons_succ]
        refine wpAnyL_takeE (i := 8) 141 rfl rfl (by kernel_rfl) (by kernel_rfl) (by kernel_rfl) (by kernel_rfl) (fun _ _ _ _ h => h) (by rfl) hS ?_
        apply Exists.intro
        refine ⟨fun w' hSw => ?_, ?_⟩
        · obtain ⟨s1, s2, s3, s4, s5, s6⟩ := hSw
          go_simp <;> with_reducible rfl
        simp only [List.setIfInBounds_toArray, List.set_cons_zero, List.set_cons_succ]
        refine wpAnyL_takeE (i := 9) 142 rfl rfl (by kernel_rfl) (by kernel_rfl) (by kernel_rfl) (by kernel_rfl) (fun _ _ _ _ h => h) (by rfl) hS ?_
        apply Exists.intro
        refine ⟨fun w' hSw => ?_, ?_⟩
        · obtain ⟨s1, s2, s3, s4, s5, s6⟩ := hSw
          go_simp <;> with_reducible rfl
        simp only [List.setIfInBounds_toArray, List.set_cons_zero, List.set_cons_succ]
        refine wpAnyL_takeE (i := 10) 143 rfl rfl (by kernel_rfl) (by kernel_rfl) (by kernel_rfl) (by kernel_rfl) (fun _ _ _ _ h => h) (by rfl) hS ?_
        apply Exists.intro
        refine ⟨fun w' hSw => ?_, ?_⟩
        · obtain ⟨s1, s2, s3, s4, s5, s6⟩ := hSw
          go_simp <;> with_reducible rfl
        simp only [List.setIfInBounds_toArray, List.set_cons_zero, List.set_cons_succ]
        refine wpAnyL_takeE (i := 11) 144 rfl rfl (by kernel_rfl) (by kernel_rfl) (by kernel_rfl) (by kernel_rfl) (fun _ _ _ _ h => h) (by rfl) hS ?_
        apply Exists.intro
        refine ⟨fun w' hSw => ?_, ?_⟩
        · obtain ⟨s1, s2, s3, s4, s5, s6⟩ := hSw
          go_simp <;> with_reducible rfl
        simp only [List.setIfInBounds_toArray, List.set_cons_zero, List.set_cons_succ]
        refine wpAnyL_takeE (i := 12) 145 rfl rfl (by kernel_rfl) (by kernel_rfl) (by kernel_rfl) (by kernel_rfl) (fun _ _ _ _ h => h) (by rfl) hS ?_
        apply Exists.intro
        refine ⟨fun w' hSw => ?_, ?_⟩
        · obtain ⟨s1, s2, s3, s4, s5, s6⟩ := hSw
          go_simp <;> with_reducible rfl
        simp only [List.setIfInBounds_toArray, List.set_cons_zero, List.set_cons_succ]
        refine wpAnyL_takeE (i := 13) 146 rfl rfl (by kernel_rfl) (by kernel_rfl) (by kernel_rfl) (by kernel_rfl) (fun _ _ _ _ h => h) (by rfl) hS ?_
        apply Exists.intro
        refine ⟨fun w' hSw => ?_, ?_⟩
        · obtain ⟨s1, s2, s3, s4, s5, s6⟩ := hSw
          go_simp <;> with_reducible rfl
        simp only [List.setIfInBounds_toArray, List.set_cons_zero, List.set_cons_succ]
        refine wpAnyL_takeE (i := 14) 147 rfl rfl (by kernel_rfl) (by kernel_rfl) (by kernel_rfl) (by kernel_rfl) (fun _ _ _ _ h => h) (by rfl) hS ?_
        apply Exists.intro
        refine ⟨fun w' hSw => ?_, ?_⟩
        · obtain ⟨s1, s2, s3, s4, s5, s6⟩ := hSw
          go_simp <;> with_reducible rfl
        simp only [List.setIfInBounds_toArray, List.set_cons_zero, List.set_cons_succ]
        refine wpAnyL_takeE (i := 15) 148 rfl rfl (by kernel_rfl) (by kernel_rfl) (by kernel_rfl) (by kernel_rfl) (fun _ _ _ _ h => h) (by rfl) hS ?_
        apply Exists.intro
        refine ⟨fun w' hSw => ?_, ?_⟩
        · obtain ⟨s1, s2, s3, s4, s5, s6⟩ := hSw
          go_simp <;> with_reducible rfl
        simp only [List.setIfInBounds_toArray, List.set_cons_zero, List.set_cons_succ]
        refine wpAnyL_takeE (i := 16) 149 rfl rfl (by kernel_rfl) (by kernel_rfl) (by kernel_rfl) (by kernel_rfl) (fun _ _ _ _ h => h) (by rfl) hS ?_
        apply Exists.intro
        refine ⟨fun w' hSw => ?_, ?_⟩
        · obtain ⟨s1, s2, s3, s4, s5, s6⟩ := hSw
          go_simp <;> with_reducible rfl
        simp only [List.setIfInBounds_toArray, List.set_cons_zero, List.set_cons_succ]
        refine wpAnyL_takeE (i := 17) 150 rfl rfl (by kernel_rfl) (by kernel_rfl) (by kernel_rfl) (by kernel_rfl) (fun _ _ _ _ h => h) (by rfl) hS ?_
        apply Exists.intro
        refine ⟨fun w' hSw => ?_, ?_⟩
        · obtain ⟨s1, s2, s3, s4, s5, s6⟩ := hSw
          go_simp <;> with_reducible rfl
        simp only [List.setIfInBounds_toArray, List.set_cons_zero, List.set_cons_succ]
        refine wpAnyL_takeE (i := 18) 151 rfl rfl (by kernel_rfl) (by kernel_rfl) (by kernel_rfl) (by kernel_rfl) (fun _ _ _ _ h => h) (by rfl) hS ?_
        apply Exists.intro
        refine ⟨fun w' hSw => ?_, ?_⟩
        · obtain ⟨s1, s2, s3, s4, s5, s6⟩ := hSw
          go_simp <;> with_reducible rfl
        simp only [List.setIfInBounds_toArray, List.set_cons_zero, List.set_cons_succ]
        refine wpAnyL_takeE (i := 19) 152 rfl rfl (by kernel_rfl) (by kernel_rfl) (by kernel_rfl) (by kernel_rfl) (fun _ _ _ _ h => h) (by rfl) hS ?_
        apply Exists.intro
        refine ⟨fun w' hSw => ?_, ?_⟩
        · obtain ⟨s1, s2, s3, s4, s5, s6⟩ := hSw
          go_simp <;> with_reducible rfl
        simp only [List.setIfInBounds_toArray, List.set_cons_zero, List.set_cons_succ]
        refine wpAnyL_takeE (i := 20) 153 rfl rfl (by kernel_rfl) (by kernel_rfl) (by kernel_rfl) (by kernel_rfl) (fun _ _ _ _ h => h) (by rfl) hS ?_
        apply Exists.intro
        refine ⟨fun w' hSw => ?_, ?_⟩
        · obtain ⟨s1, s2, s3, s4, s5, s6⟩ := hSw
          go_simp <;> with_reducible rfl
        simp only [List.setIfInBounds_toArray, List.set_cons_zero, List.set_cons_succ]
        refine wpAnyL_takeE (i := 21) 154 rfl rfl (by kernel_rfl) (by kernel_rfl) (by kernel_rfl) (by kernel_rfl) (fun _ _ _ _ h => h) (by rfl) hS ?_
        apply Exists.intro
        refine ⟨fun w' hSw => ?_, ?_⟩
        · obtain ⟨s1, s2, s3, s4, s5, s6⟩ := hSw
          go_simp <;> with_reducible rfl
        simp only [List.setIfInBounds_toArray, List.set_cons_zero, List.set_cons_succ]
        refine wpAnyL_takeE (i := 22) 155 rfl rfl (by kernel_rfl) (by kernel_rfl) (by kernel_rfl) (by kernel_rfl) (fun _ _ _ _ h => h) (by rfl) hS ?_
        apply Exists.intro
        refine ⟨fun w' hSw => ?_, ?_⟩
        · obtain ⟨s1, s2, s3, s4, s5, s6⟩ := hSw
          go_simp <;> with_reducible rfl
        simp only [List.setIfInBounds_toArray, List.set_cons_zero, List.set_cons_succ]
        refine wpAnyL_takeE (i := 23) 156 rfl rfl (by kernel_rfl) (by kernel_rfl) (by kernel_rfl) (by kernel_rfl) (fun _ _ _ _ h => h) (by rfl) hS ?_
        apply Exists.intro
        refine ⟨fun w' hSw => ?_, ?_⟩
        · obtain ⟨s1, s2, s3, s4, s5, s6⟩ := hSw
          go_simp <;> with_reducible rfl
        simp only [List.setIfInBounds_toArray, List.set_cons_zero, List.set_cons_succ]
        refine wpAnyL_one (i := 24) (by kernel_rfl) rfl (fun K1 hK1 => ?_)
        go_simp
        have hout := H8.out.out
        have hoc : ∀ b o u, b ≠ w.heap.size + 1 → w8.cell? ⟨b, o, none⟩ = some u → (set4 w8 (w.heap.size + 1) 5 i t x).cell? ⟨b, o, none⟩ = some u := fun b o u hb hc => set4_cell hb hc
        have hS2 : ((set4 w8 (w.heap.size + 1) 5 i t x).cell? ⟨w.heap.size, 0, none⟩ = some (.int .i64 5) ∧ (set4 w8 (w.heap.size + 1) 5 i t x).cell? ⟨w.heap.size, 1, none⟩ = some (.int .i64 i) ∧ (set4 w8 (w.heap.size + 1) 5 i t x).cell? ⟨w.heap.size, 2, none⟩ = some (.int .i64 t) ∧ (set4 w8 (w.heap.size + 1) 5 i t x).cell? ⟨w.heap.size, 3, none⟩ = some (.int .i64 x) ∧ (set4 w8 (w.heap.size + 1) 5 i t x).cell? ⟨a, 0, none⟩ = some (.slice (some ⟨pb, 0, none⟩) n pc) ∧ (set4 w8 (w.heap.size + 1) 5 i t x).cell? ⟨pb, t, none⟩ = some (.int .i64 i)) := ⟨hoc _ _ _ (by omega) hS.1, hoc _ _ _ (by omega) hS.2.1, hoc _ _ _ (by omega) hS.2.2.1, hoc _ _ _ (by omega) hS.2.2.2.1, hoc _ _ _ (by have := H.out.a_lt; omega) hS.2.2.2.2.1, hoc _ _ _ (by have := H.out.pb_lt; omega) hS.2.2.2.2.2⟩
        have HOUT := Lib.hid hout
        refine hK1.out _ (set4 w8 (w.heap.size + 1) 5 i t x) (fun _ => hS2) ?_
        clear hK1 K1 hout hoc hS hS2 f0 f1 f2 f3 g0 g1 g2 g3 z1 H8
        try simp only [List.setIfInBounds_toArray, List.set_cons_zero, List.set_cons_succ]
        refine wpAnyL_one (i := 25) (by kernel_rfl) rfl (fun K1 hK1 => ?_)
        go_simp
        refine hK1.out _ _ (fun h => absurd rfl h) ?_
        clear hK1 K1
        refine wpAnyL_done (by kernel_rfl) ?_ _
        go_wp2_with fail
        refine bodyPost_ret_by (results_fit rfl rfl HOUT.out.2 rfl) rfl ?_
        exact ⟨false, rfl, HOUT.out.1, fun h => by cases h⟩
      have e4' : ((t : Int) == (x : Int)) = false := beq_eq_false_iff_ne.2 (by omega)
      have e4'' : ((t : Int) != (x : Int)) = true := by simp [bne, e4']
      have HE4 := Lib.hid e4
      clear e4
      obtain ⟨w8, hw8⟩ : ∃ w8, w7.drew = w8 := ⟨_, rfl⟩
      refine wp_region_lastD (fun w' => w'.cell? ⟨w.heap.size, 0, none⟩ = some (.int .i64 5) ∧ w'.cell? ⟨w.heap.size, 1, none⟩ = some (.int .i64 i) ∧ w'.cell? ⟨w.heap.size, 2, none⟩ = some (.int .i64 t) ∧ w'.cell? ⟨w.heap.size, 3, none⟩ = some (.int .i64 x) ∧ w'.cell? ⟨a, 0, none⟩ = some (.slice (some ⟨pb, 0, none⟩) n pc) ∧ w'.cell? ⟨pb, t, none⟩ = some (.int .i64 i)) 25 (by kernel_rfl) hw8 ?_
      have H8 := Lib.hid H7.out.drew
      rw [hw8] at H8
      clear hw8 f0 f1 f2 f3 g0 g1 g2 g3 z1 H7
      obtain ⟨f0, f1, f2, f3⟩ := H8.out.cells
      obtain ⟨r0, r1, r2, r3, g0, g1, g2, g3⟩ := H8.out.rcells
      have z1 := H8.out.soft1
      have ct' := H8.out.gr.par_at htn
      have c0' := H8.out.gr.c0
      rw [HPT.out] at ct'
      simp only [pn] at ct'
      clear ct c0
      have hS : (w8.cell? ⟨w.heap.size, 0, none⟩ = some (.int .i64 5) ∧ w8.cell? ⟨w.heap.size, 1, none⟩ = some (.int .i64 i) ∧ w8.cell? ⟨w.heap.size, 2, none⟩ = some (.int .i64 t) ∧ w8.cell? ⟨w.heap.size, 3, none⟩ = some (.int .i64 x) ∧ w8.cell? ⟨a, 0, none⟩ = some (.slice (some ⟨pb, 0, none⟩) n pc) ∧ w8.cell? ⟨pb, t, none⟩ = some (.int .i64 i)) := ⟨f0, f1, f2, f3, c0', ct'⟩
      clear c0' ct'
      refine wpAnyL_takeE (i := 0) 133 rfl rfl (by kernel_rfl) (by kernel_rfl) (by kernel_rfl) (by kernel_rfl) (fun _ _ _ _ h => h) (by rfl) hS ?_
      apply Exists.intro
      refine ⟨fun w' hSw => ?_, ?_⟩
      · obtain ⟨s1, s2, s3, s4, s5, s6⟩ := hSw
        go_simp <;> with_reducible rfl
      simp only [List.setIfInBounds_toArray, List.set_cons_zero, List.set_cons_succ]
      refine wpAnyL_takeE (i := 1) 134 rfl rfl (by kernel_rfl) (by kernel_rfl) (by kernel_rfl) (by kernel_rfl) (fun _ _ _ _ h => h) (by rfl) hS ?_
      apply Exists.intro
      refine ⟨fun w' hSw => ?_, ?_⟩
      · obtain ⟨s1, s2, s3, s4, s5, s6⟩ := hSw
        go_simp <;> with_reducible rfl
      simp only [List.setIfInBounds_toArray, List.set_cons_zero, List.set_cons_succ]
      refine wpAnyL_takeE (i := 2) 135 rfl rfl (by kernel_rfl) (by kernel_rfl) (by kernel_rfl) (by kernel_rfl) (fun _ _ _ _ h => h) (by rfl) hS ?_
      apply Exists.intro
      refine ⟨fun w' hSw => ?_, ?_⟩
      · obtain ⟨s1, s2, s3, s4, s5, s6⟩ := hSw
        go_simp <;> with_reducible rfl
      simp only [List.setIfInBounds_toArray, List.set_cons_zero, List.set_cons_succ]
      refine wpAnyL_takeE (i := 3) 136 rfl rfl (by kernel_rfl) (by kernel_rfl) (by kernel_rfl) (by kernel_rfl) (fun _ _ _ _ h => h) (by rfl) hS ?_
      apply Exists.intro
      refine ⟨fun w' hSw => ?_, ?_⟩
      · obtain ⟨s1, s2, s3, s4, s5, s6⟩ := hSw
        go_simp <;> with_reducible rfl
      simp only [List.setIfInBounds_toArray, List.set_cons_zero, List.set_cons_succ]
      refine wpAnyL_takeE (i := 4) 137 rfl rfl (by kernel_rfl) (by kernel_rfl) (by kernel_rfl) (by kernel_rfl) (fun _ _ _ _ h => h) (by rfl) hS ?_
      apply Exists.intro
      refine ⟨fun w' hSw => ?_, ?_⟩
      · obtain ⟨s1, s2, s3, s4, s5, s6⟩ := hSw
        go_simp <;> with_reducible rfl
      simp only [List.setIfInBounds_toArray, List.set_cons_zero, List.set_cons_succ]
      refine wpAnyL_takeE (i := 5) 138 rfl rfl (by kernel_rfl) (by kernel_rfl) (by kernel_rfl) (by kernel_rfl) (fun _ _ _ _ h => h) (by rfl) hS ?_
      apply Exists.intro
      refine ⟨fun w' hSw => ?_, ?_⟩
      · obtain ⟨s1, s2, s3, s4, s5, s6⟩ := hSw
        go_simp <;> with_reducible rfl
      simp only [List.setIfInBounds_toArray, List.set_cons_zero, List.set_cons_succ]
      refine wpAnyL_takeE (i := 6) 139 rfl rfl (by kernel_rfl) (by kernel_rfl) (by kernel_rfl) (by kernel_rfl) (fun _ _ _ _ h => h) (by rfl) hS ?_
      apply Exists.intro
      refine ⟨fun w' hSw => ?_, ?_⟩
      · obtain ⟨s1, s2, s3, s4, s5, s6⟩ := hSw
        go_simp <;> with_reducible rfl
      simp only [List.setIfInBounds_toArray, List.set_cons_zero, List.set_cons_succ]
      refine wpAnyL_takeE (i := 7) 140 rfl rfl (by kernel_rfl) (by kernel_rfl) (by kernel_rfl) (by kernel_rfl) (fun _ _ _ _ h => h) (by rfl) hS ?_
      apply Exists.intro
      refine ⟨fun w' hSw => ?_, ?_⟩
      · obtain ⟨s1, s2, s3, s4, s5, s6⟩ := hSw
        go_simp <;> with_reducible rfl
      simp only [List.setIfInBounds_toArray, List.set_cons_zero, List.set_cons_succ]
      refine wpAnyL_takeE (i := 8) 141 rfl rfl (by kernel_rfl) (by kernel_rfl) (by kernel_rfl) (by kernel_rfl) (fun _ _ _ _ h => h) (by rfl) hS ?_
      apply Exists.intro
      refine ⟨fun w' hSw => ?_, ?_⟩
      · obtain ⟨s1, s2, s3, s4, s5, s6⟩ := hSw
        go_simp <;> with_reducible rfl
      simp only [List.setIfInBounds_toArray, List.set_cons_zero, List.set_cons_succ]
      refine wpAnyL_takeE (i := 9) 142 rfl rfl (by kernel_rfl) (by kernel_rfl) (by kernel_rfl) (by kernel_rfl) (fun _ _ _ _ h => h) (by rfl) hS ?_
      apply Exists.intro
      refine ⟨fun w' hSw => ?_, ?_⟩
      · obtain ⟨s1, s2, s3, s4, s5, s6⟩ := hSw
        go_simp <;> with_reducible rfl
      simp only [List.setIfInBounds_toArray, List.set_cons_zero, List.set_cons_succ]
      refine wpAnyL_takeE (i := 10) 143 rfl rfl (by kernel_rfl) (by kernel_rfl) (by kernel_rfl) (by kernel_rfl) (fun _ _ _ _ h => h) (by rfl) hS ?_
      apply Exists.intro
      refine ⟨fun w' hSw => ?_, ?_⟩
      · obtain ⟨s1, s2, s3, s4, s5, s6⟩ := hSw
        go_simp <;> with_reducible rfl
      simp only [List.setIfInBounds_toArray, List.set_cons_zero, List.set_cons_succ]
      refine wpAnyL_takeE (i := 11) 144 rfl rfl (by kernel_rfl) (by kernel_rfl) (by kernel_rfl) (by kernel_rfl) (fun _ _ _ _ h => h) (by rfl) hS ?_
      apply Exists.intro
      refine ⟨fun w' hSw => ?_, ?_⟩
      · obtain ⟨s1, s2, s3, s4, s5, s6⟩ := hSw
        go_simp <;> with_reducible rfl
      simp only [List.setIfInBounds_toArray, List.set_cons_zero, List.set_cons_succ]
      refine wpAnyL_takeE (i := 12) 145 rfl rfl (by kernel_rfl) (by kernel_rfl) (by kernel_rfl) (by kernel_rfl) (fun _ _ _ _ h => h) (by rfl) hS ?_
      apply Exists.intro
      refine ⟨fun w' hSw => ?_, ?_⟩
      · obtain ⟨s1, s2, s3, s4, s5, s6⟩ := hSw
        go_simp <;> with_reducible rfl
      simp only [List.setIfInBounds_toArray, List.set_cons_zero, List.set_cons_succ]
      refine wpAnyL_takeE (i := 13) 146 rfl rfl (by kernel_rfl) (by kernel_rfl) (by kernel_rfl) (by kernel_rfl) (fun _ _ _ _ h => h) (by rfl) hS ?_
      apply Exists.intro
      refine ⟨fun w' hSw => ?_, ?_⟩
      · obtain ⟨s1, s2, s3, s4, s5, s6⟩ := hSw
        go_simp <;> with_reducible rfl
      simp only [List.setIfInBounds_toArray, List.set_cons_zero, List.set_cons_succ]
      refine wpAnyL_takeE (i := 14) 147 rfl rfl (by kernel_rfl) (by kernel_rfl) (by kernel_rfl) (by kernel_rfl) (fun _ _ _ _ h => h) (by rfl) hS ?_
      apply Exists.intro
      refine ⟨fun w' hSw => ?_, ?_⟩
      · obtain ⟨s1, s2, s3, s4, s5, s6⟩ := hSw
        go_simp <;> with_reducible rfl
      simp only [List.setIfInBounds_toArray, List.set_cons_zero, List.set_cons_succ]
      refine wpAnyL_takeE (i := 15) 148 rfl rfl (by kernel_rfl) (by kernel_rfl) (by kernel_rfl) (by kernel_rfl) (fun _ _ _ _ h => h) (by rfl) hS ?_
      apply Exists.intro
      refine ⟨fun w' hSw => ?_, ?_⟩
      · obtain ⟨s1, s2, s3, s4, s5, s6⟩ := hSw
        go_simp <;> with_reducible rfl
      simp only [List.setIfInBounds_toArray, List.set_cons_zero, List.set_cons_succ]
      refine wpAnyL_takeE (i := 16) 149 rfl rfl (by kernel_rfl) (by kernel_rfl) (by kernel_rfl) (by kernel_rfl) (fun _ _ _ _ h => h) (by rfl) hS ?_
      apply Exists.intro
      refine ⟨fun w' hSw => ?_, ?_⟩
      · obtain ⟨s1, s2, s3, s4, s5, s6⟩ := hSw
        go_simp <;> with_reducible rfl
      simp only [List.setIfInBounds_toArray, List.set_cons_zero, List.set_cons_succ]
      refine wpAnyL_takeE (i := 17) 150 rfl rfl (by kernel_rfl) (by kernel_rfl) (by kernel_rfl) (by kernel_rfl) (fun _ _ _ _ h => h) (by rfl) hS ?_
      apply Exists.intro
      refine ⟨fun w' hSw => ?_, ?_⟩
      · obtain ⟨s1, s2, s3, s4, s5, s6⟩ := hSw
        go_simp <;> with_reducible rfl
      simp only [List.setIfInBounds_toArray, List.set_cons_zero, List.set_cons_succ]
      refine wpAnyL_takeE (i := 18) 151 rfl rfl (by kernel_rfl) (by kernel_rfl) (by kernel_rfl) (by kernel_rfl) (fun _ _ _ _ h => h) (by rfl) hS ?_
      apply Exists.intro
      refine ⟨fun w' hSw => ?_, ?_⟩
      · obtain ⟨s1, s2, s3, s4, s5, s6⟩ := hSw
        go_simp <;> with_reducible rfl
      simp only [List.setIfInBounds_toArray, List.set_cons_zero, List.set_cons_succ]
      refine wpAnyL_takeE (i := 19) 152 rfl rfl (by kernel_rfl) (by kernel_rfl) (by kernel_rfl) (by kernel_rfl) (fun _ _ _ _ h => h) (by rfl) hS ?_
      apply Exists.intro
      refine ⟨fun w' hSw => ?_, ?_⟩
      · obtain ⟨s1, s2, s3, s4, s5, s6⟩ := hSw
        go_simp <;> with_reducible rfl
      simp only [List.setIfInBounds_toArray, List.set_cons_zero, List.set_cons_succ]
      refine wpAnyL_takeE (i := 20) 153 rfl rfl (by kernel_rfl) (by kernel_rfl) (by kernel_rfl) (by kernel_rfl) (fun _ _ _ _ h => h) (by rfl) hS ?_
      apply Exists.intro
      refine ⟨fun w' hSw => ?_, ?_⟩
      · obtain ⟨s1, s2, s3, s4, s5, s6⟩ := hSw
        go_simp <;> with_reducible rfl
      simp only [List.setIfInBounds_toArray, List.set_cons_zero, List.set_cons_succ]
      refine wpAnyL_takeE (i := 21) 154 rfl rfl (by kernel_rfl) (by kernel_rfl) (by kernel_rfl) (by kernel_rfl) (fun _ _ _ _ h => h) (by rfl) hS ?_
      apply Exists.intro
      refine ⟨fun w' hSw => ?_, ?_⟩
      · obtain ⟨s1, s2, s3, s4, s5, s6⟩ := hSw
        go_simp <;> with_reducible rfl
      simp only [List.setIfInBounds_toArray, List.set_cons_zero, List.set_cons_succ]
      refine wpAnyL_takeE (i := 22) 155 rfl rfl (by kernel_rfl) (by kernel_rfl) (by kernel_rfl) (by kernel_rfl) (fun _ _ _ _ h => h) (by rfl) hS ?_
      apply Exists.intro
      refine ⟨fun w' hSw => ?_, ?_⟩
      · obtain ⟨s1, s2, s3, s4, s5, s6⟩ := hSw
        go_simp <;> with_reducible rfl
      simp only [List.setIfInBounds_toArray, List.set_cons_zero, List.set_cons_succ]
      refine wpAnyL_takeE (i := 23) 156 rfl rfl (by kernel_rfl) (by kernel_rfl) (by kernel_rfl) (by kernel_rfl) (fun _ _ _ _ h => h) (by rfl) hS ?_
      apply Exists.intro
      refine ⟨fun w' hSw => ?_, ?_⟩
      · obtain ⟨s1, s2, s3, s4, s5, s6⟩ := hSw
        go_simp <;> with_reducible rfl
      simp only [List.setIfInBounds_toArray, List.set_cons_zero, List.set_cons_succ]
      refine wpAnyL_one (i := 24) (by kernel_rfl) rfl (fun K1 hK1 => ?_)
      go_simp
      have hout := H8.out.out
      have hoc : ∀ b o u, b ≠ w.heap.size + 1 → w8.cell? ⟨b, o, none⟩ = some u → (set4 w8 (w.heap.size + 1) 5 i t x).cell? ⟨b, o, none⟩ = some u := fun b o u hb hc => set4_cell hb hc
      have hS2 : ((set4 w8 (w.heap.size + 1) 5 i t x).cell? ⟨w.heap.size, 0, none⟩ = some (.int .i64 5) ∧ (set4 w8 (w.heap.size + 1) 5 i t x).cell? ⟨w.heap.size, 1, none⟩ = some (.int .i64 i) ∧ (set4 w8 (w.heap.size + 1) 5 i t x).cell? ⟨w.heap.size, 2, none⟩ = some (.int .i64 t) ∧ (set4 w8 (w.heap.size + 1) 5 i t x).cell? ⟨w.heap.size, 3, none⟩ = some (.int .i64 x) ∧ (set4 w8 (w.heap.size + 1) 5 i t x).cell? ⟨a, 0, none⟩ = some (.slice (some ⟨pb, 0, none⟩) n pc) ∧ (set4 w8 (w.heap.size + 1) 5 i t x).cell? ⟨pb, t, none⟩ = some (.int .i64 i)) := ⟨hoc _ _ _ (by omega) hS.1, hoc _ _ _ (by omega) hS.2.1, hoc _ _ _ (by omega) hS.2.2.1, hoc _ _ _ (by omega) hS.2.2.2.1, hoc _ _ _ (by have := H.out.a_lt; omega) hS.2.2.2.2.1, hoc _ _ _ (by have := H.out.pb_lt; omega) hS.2.2.2.2.2⟩
      have HOUT := Lib.hid hout
      refine hK1.out _ (set4 w8 (w.heap.size + 1) 5 i t x) (fun _ => hS2) ?_
      clear hK1 K1 hout hoc hS hS2 f0 f1 f2 f3 g0 g1 g2 g3 z1 H8
      try simp only [List.setIfInBounds_toArray, List.set_cons_zero, List.set_cons_succ]
      refine wpAnyL_one (i := 25) (by kernel_rfl) rfl (fun K1 hK1 => ?_)
      go_simp
      refine hK1.out _ _ (fun h => absurd rfl h) ?_
      clear hK1 K1
      refine wpAnyL_done (by kernel_rfl) ?_ _
      go_wp2_with fail
      refine bodyPost_ret_by (results_fit rfl rfl HOUT.out.2 rfl) rfl ?_
      exact ⟨true, rfl, HOUT.out.1, fun _ => ⟨⟨by simp, hin, htn, hxn, fun _ => ⟨HPT.out, HE4.out⟩, fun _ => ⟨_, HNY.out, HE3.out⟩⟩, fun _ _ => ⟨HAB.out, fun hm => by first | (cases hm; done) | exact HM.out trivial | exact HM.out hm⟩⟩⟩
    rw [plc_none HWF.out hpt]
    have HPT := Lib.hid hpt
    clear hpt
    go_wp2_with fail
    go_quiet (fail)
    obtain ⟨w7, hw7⟩ : ∃ w7, w6.drewN nq = w7 := ⟨_, rfl⟩
    have H7 := Lib.hid (H6.out.drewN nq)
    rw [hw7] at H7 ⊢
    clear hw7 f0 f1 f2 f3 g0 g1 g2 g3 z1 H6
    obtain ⟨f0, f1, f2, f3⟩ := H7.out.cells
    obtain ⟨r0, r1, r2, r3, g0, g1, g2, g3⟩ := H7.out.rcells
    have z1 := H7.out.soft1
    go_wp2_with fail
    have ct := H7.out.gr.par_at htn
    have c0 := H7.out.gr.c0
    have hq := pn_ne HPT.out
    obtain ⟨q, hqq⟩ : ∃ q, pn (T.par t) = q := ⟨_, rfl⟩
    rw [hqq] at ct hq
    have HQ := Lib.hid hqq
    clear hqq
    obtain ⟨w8, hw8⟩ : ∃ w8, w7.drew = w8 := ⟨_, rfl⟩
    refine wp_region_lastD (fun w' => w'.cell? ⟨w.heap.size, 0, none⟩ = some (.int .i64 5) ∧ w'.cell? ⟨w.heap.size, 1, none⟩ = some (.int .i64 i) ∧ w'.cell? ⟨w.heap.size, 2, none⟩ = some (.int .i64 t) ∧ w'.cell? ⟨w.heap.size, 3, none⟩ = some (.int .i64 x) ∧ w'.cell? ⟨a, 0, none⟩ = some (.slice (some ⟨pb, 0, none⟩) n pc) ∧ w'.cell? ⟨pb, t, none⟩ = some (.int .i64 q)) 25 (by kernel_rfl) hw8 ?_
    have H8 := Lib.hid H7.out.drew
    rw [hw8] at H8
    clear hw8 f0 f1 f2 f3 g0 g1 g2 g3 z1 H7
    obtain ⟨f0, f1, f2, f3⟩ := H8.out.cells
    obtain ⟨r0, r1, r2, r3, g0, g1, g2, g3⟩ := H8.out.rcells
    have z1 := H8.out.soft1
    have ct' := H8.out.gr.par_at htn
    have c0' := H8.out.gr.c0
    rw [HQ.out] at ct'
    clear ct c0
    have hS : (w8.cell? ⟨w.heap.size, 0, none⟩ = some (.int .i64 5) ∧ w8.cell? ⟨w.heap.size, 1, none⟩ = some (.int .i64 i) ∧ w8.cell? ⟨w.heap.size, 2, none⟩ = some (.int .i64 t) ∧ w8.cell? ⟨w.heap.size, 3, none⟩ = some (.int .i64 x) ∧ w8.cell? ⟨a, 0, none⟩ = some (.slice (some ⟨pb, 0, none⟩) n pc) ∧ w8.cell? ⟨pb, t, none⟩ = some (.int .i64 q)) := ⟨f0, f1, f2, f3, c0', ct'⟩
    clear c0' ct'
    refine wpAnyL_takeE (i := 0) 133 rfl rfl (by kernel_rfl) (by kernel_rfl) (by kernel_rfl) (by kernel_rfl) (fun _ _ _ _ h => h) (by rfl) hS ?_
    apply Exists.intro
    refine ⟨fun w' hSw => ?_, ?_⟩
    · obtain ⟨s1, s2, s3, s4, s5, s6⟩ := hSw
      go_simp <;> with_reducible rfl
    simp only [List.setIfInBounds_toArray, List.set_cons_zero, List.set_cons_succ]
    refine wpAnyL_takeE (i := 1) 134 rfl rfl (by kernel_rfl) (by kernel_rfl) (by kernel_rfl) (by kernel_rfl) (fun _ _ _ _ h => h) (by rfl) hS ?_
    apply Exists.intro
    refine ⟨fun w' hSw => ?_, ?_⟩
    · obtain ⟨s1, s2, s3, s4, s5, s6⟩ := hSw
      go_simp <;> with_reducible rfl
    simp only [List.setIfInBounds_toArray, List.set_cons_zero, List.set_cons_succ]
    refine wpAnyL_takeE (i := 2) 135 rfl rfl (by kernel_rfl) (by kernel_rfl) (by kernel_rfl) (by kernel_rfl) (fun _ _ _ _ h => h) (by rfl) hS ?_
    apply Exists.intro
    refine ⟨fun w' hSw => ?_, ?_⟩
    · obtain ⟨s1, s2, s3, s4, s5, s6⟩ := hSw
      go_simp <;> with_reducible rfl
    simp only [List.setIfInBounds_toArray, List.set_cons_zero, List.set_cons_succ]
    refine wpAnyL_takeE (i := 3) 136 rfl rfl (by kernel_rfl) (by kernel_rfl) (by kernel_rfl) (by kernel_rfl) (fun _ _ _ _ h => h) (by rfl) hS ?_
    apply Exists.intro
    refine ⟨fun w' hSw => ?_, ?_⟩
    · obtain ⟨s1, s2, s3, s4, s5, s6⟩ := hSw
      go_simp <;> with_reducible rfl
    simp only [List.setIfInBounds_toArray, List.set_cons_zero, List.set_cons_succ]
    refine wpAnyL_takeE (i := 4) 137 rfl rfl (by kernel_rfl) (by kernel_rfl) (by kernel_rfl) (by kernel_rfl) (fun _ _ _ _ h => h) (by rfl) hS ?_
    apply Exists.intro
    refine ⟨fun w' hSw => ?_, ?_⟩
    · obtain ⟨s1, s2, s3, s4, s5, s6⟩ := hSw
      go_simp <;> with_reducible rfl
    simp only [List.setIfInBounds_toArray, List.set_cons_zero, List.set_cons_succ]
    refine wpAnyL_takeE (i := 5) 138 rfl rfl (by kernel_rfl) (by kernel_rfl) (by kernel_rfl) (by kernel_rfl) (fun _ _ _ _ h => h) (by rfl) hS ?_
    apply Exists.intro
    refine ⟨fun w' hSw => ?_, ?_⟩
    · obtain ⟨s1, s2, s3, s4, s5, s6⟩ := hSw
      go_simp <;> with_reducible rfl
    simp only [List.setIfInBounds_toArray, List.set_cons_zero, List.set_cons_succ]
    refine wpAnyL_takeE (i := 6) 139 rfl rfl (by kernel_rfl) (by kernel_rfl) (by kernel_rfl) (by kernel_rfl) (fun _ _ _ _ h => h) (by rfl) hS ?_
    apply Exists.intro
    refine ⟨fun w' hSw => ?_, ?_⟩
    · obtain ⟨s1, s2, s3, s4, s5, s6⟩ := hSw
      go_simp <;> with_reducible rfl
    simp only [List.setIfInBounds_toArray, List.set_cons_zero, List.set_cons_succ]
    refine wpAnyL_takeE (i := 7) 140 rfl rfl (by kernel_rfl) (by kernel_rfl) (by kernel_rfl) (by kernel_rfl) (fun _ _ _ _ h => h) (by rfl) hS ?_
    apply Exists.intro
    refine ⟨fun w' hSw => ?_, ?_⟩
    · obtain ⟨s1, s2, s3, s4, s5, s6⟩ := hSw
      go_simp <;> with_reducible rfl
    simp only [List.setIfInBounds_toArray, List.set_cons_zero, List.set_cons_succ]
    refine wpAnyL_takeE (i := 8) 141 rfl rfl (by kernel_rfl) (by kernel_rfl) (by kernel_rfl) (by kernel_rfl) (fun _ _ _ _ h => h) (by rfl) hS ?_
    apply Exists.intro
    refine ⟨fun w' hSw => ?_, ?_⟩
    · obtain ⟨s1, s2, s3, s4, s5, s6⟩ := hSw
      go_simp <;> with_reducible rfl
    simp only [List.setIfInBounds_toArray, List.set_cons_zero, List.set_cons_succ]
    refine wpAnyL_takeE (i := 9) 142 rfl rfl (by kernel_rfl) (by kernel_rfl) (by kernel_rfl) (by kernel_rfl) (fun _ _ _ _ h => h) (by rfl) hS ?_
    apply Exists.intro
    refine ⟨fun w' hSw => ?_, ?_⟩
    · obtain ⟨s1, s2, s3, s4, s5, s6⟩ := hSw
      go_simp <;> with_reducible rfl
    simp only [List.setIfInBounds_toArray, List.set_cons_zero, List.set_cons_succ]
    refine wpAnyL_takeE (i := 10) 143 rfl rfl (by kernel_rfl) (by kernel_rfl) (by kernel_rfl) (by kernel_rfl) (fun _ _ _ _ h => h) (by rfl) hS ?_
    apply Exists.intro
    refine ⟨fun w' hSw => ?_, ?_⟩
    · obtain ⟨s1, s2, s3, s4, s5, s6⟩ := hSw
      go_simp <;> with_reducible rfl
    simp only [List.setIfInBounds_toArray, List.set_cons_zero, List.set_cons_succ]
    refine wpAnyL_takeE (i := 11) 144 rfl rfl (by kernel_rfl) (by kernel_rfl) (by kernel_rfl) (by kernel_rfl) (fun _ _ _ _ h => h) (by rfl) hS ?_
    apply Exists.intro
    refine ⟨fun w' hSw => ?_, ?_⟩
    · obtain ⟨s1, s2, s3, s4, s5, s6⟩ := hSw
      go_simp <;> with_reducible rfl
    simp only [List.setIfInBounds_toArray, List.set_cons_zero, List.set_cons_succ]
    refine wpAnyL_takeE (i := 12) 145 rfl rfl (by kernel_rfl) (by kernel_rfl) (by kernel_rfl) (by kernel_rfl) (fun _ _ _ _ h => h) (by rfl) hS ?_
    apply Exists.intro
    refine ⟨fun w' hSw => ?_, ?_⟩
    · obtain ⟨s1, s2, s3, s4, s5, s6⟩ := hSw
      go_simp <;> with_reducible rfl
    simp only [List.setIfInBounds_toArray, List.set_cons_zero, List.set_cons_succ]
    refine wpAnyL_takeE (i := 13) 146 rfl rfl (by kernel_rfl) (by kernel_rfl) (by kernel_rfl) (by kernel_rfl) (fun _ _ _ _ h => h) (by rfl) hS ?_
    apply Exists.intro
    refine ⟨fun w' hSw => ?_, ?_⟩
    · obtain ⟨s1, s2, s3, s4, s5, s6⟩ := hSw
      go_simp <;> with_reducible rfl
    simp only [List.setIfInBounds_toArray, List.set_cons_zero, List.set_cons_succ]
    refine wpAnyL_takeE (i := 14) 147 rfl rfl (by kernel_rfl) (by kernel_rfl) (by kernel_rfl) (by kernel_rfl) (fun _ _ _ _ h => h) (by rfl) hS ?_
    apply Exists.intro
    refine ⟨fun w' hSw => ?_, ?_⟩
    · obtain ⟨s1, s2, s3, s4, s5, s6⟩ := hSw
      go_simp <;> with_reducible rfl
    simp only [List.setIfInBounds_toArray, List.set_cons_zero, List.set_cons_succ]
    refine wpAnyL_takeE (i := 15) 148 rfl rfl (by kernel_rfl) (by kernel_rfl) (by kernel_rfl) (by kernel_rfl) (fun _ _ _ _ h => h) (by rfl) hS ?_
    apply Exists.intro
    refine ⟨fun w' hSw => ?_, ?_⟩
    · obtain ⟨s1, s2, s3, s4, s5, s6⟩ := hSw
      go_simp <;> with_reducible rfl
    simp only [List.setIfInBounds_toArray, List.set_cons_zero, List.set_cons_succ]
    refine wpAnyL_takeE (i := 16) 149 rfl rfl (by kernel_rfl) (by kernel_rfl) (by kernel_rfl) (by kernel_rfl) (fun _ _ _ _ h => h) (by rfl) hS ?_
    apply Exists.intro
    refine ⟨fun w' hSw => ?_, ?_⟩
    · obtain ⟨s1, s2, s3, s4, s5, s6⟩ := hSw
      go_simp <;> with_reducible rfl
    simp only [List.setIfInBounds_toArray, List.set_cons_zero, List.set_cons_succ]
    refine wpAnyL_skip (i := 17) 150 rfl rfl (by kernel_rfl) (by kernel_rfl) (by kernel_rfl) (by kernel_rfl) (fun _ _ _ h => h) (by rfl) hS ?_
    simp only [List.setIfInBounds_toArray, List.set_cons_zero, List.set_cons_succ]
    refine wpAnyL_skip (i := 18) 151 rfl rfl (by kernel_rfl) (by kernel_rfl) (by kernel_rfl) (by kernel_rfl) (fun _ _ _ h => h) (by rfl) hS ?_
    simp only [List.setIfInBounds_toArray, List.set_cons_zero, List.set_cons_succ]
    refine wpAnyL_skip (i := 19) 152 rfl rfl (by kernel_rfl) (by kernel_rfl) (by kernel_rfl) (by kernel_rfl) (fun _ _ _ h => h) (by rfl) hS ?_
    simp only [List.setIfInBounds_toArray, List.set_cons_zero, List.set_cons_succ]
    refine wpAnyL_skip (i := 20) 153 rfl rfl (by kernel_rfl) (by kernel_rfl) (by kernel_rfl) (by kernel_rfl) (fun _ _ _ h => h) (by rfl) hS ?_
    simp only [List.setIfInBounds_toArray, List.set_cons_zero, List.set_cons_succ]
    refine wpAnyL_skip (i := 21) 154 rfl rfl (by kernel_rfl) (by kernel_rfl) (by kernel_rfl) (by kernel_rfl) (fun _ _ _ h => h) (by rfl) hS ?_
    simp only [List.setIfInBounds_toArray, List.set_cons_zero, List.set_cons_succ]
    refine wpAnyL_takeE (i := 22) 155 rfl rfl (by kernel_rfl) (by kernel_rfl) (by kernel_rfl) (by kernel_rfl) (fun _ _ _ _ h => h) (by rfl) hS ?_
    apply Exists.intro
    refine ⟨fun w' hSw => ?_, ?_⟩
    · obtain ⟨s1, s2, s3, s4, s5, s6⟩ := hSw
      go_simp <;> with_reducible rfl
    simp only [List.setIfInBounds_toArray, List.set_cons_zero, List.set_cons_succ]
    refine wpAnyL_takeE (i := 23) 156 rfl rfl (by kernel_rfl) (by kernel_rfl) (by kernel_rfl) (by kernel_rfl) (fun _ _ _ _ h => h) (by rfl) hS ?_
    apply Exists.intro
    refine ⟨fun w' hSw => ?_, ?_⟩
    · obtain ⟨s1, s2, s3, s4, s5, s6⟩ := hSw
      go_simp <;> with_reducible rfl
    simp only [List.setIfInBounds_toArray, List.set_cons_zero, List.set_cons_succ]
    refine wpAnyL_one (i := 24) (by kernel_rfl) rfl (fun K1 hK1 => ?_)
    go_simp
    have hout := H8.out.out
    have hoc : ∀ b o u, b ≠ w.heap.size + 1 → w8.cell? ⟨b, o, none⟩ = some u → (set4 w8 (w.heap.size + 1) 5 i t x).cell? ⟨b, o, none⟩ = some u := fun b o u hb hc => set4_cell hb hc
    have hS2 : ((set4 w8 (w.heap.size + 1) 5 i t x).cell? ⟨w.heap.size, 0, none⟩ = some (.int .i64 5) ∧ (set4 w8 (w.heap.size + 1) 5 i t x).cell? ⟨w.heap.size, 1, none⟩ = some (.int .i64 i) ∧ (set4 w8 (w.heap.size + 1) 5 i t x).cell? ⟨w.heap.size, 2, none⟩ = some (.int .i64 t) ∧ (set4 w8 (w.heap.size + 1) 5 i t x).cell? ⟨w.heap.size, 3, none⟩ = some (.int .i64 x) ∧ (set4 w8 (w.heap.size + 1) 5 i t x).cell? ⟨a, 0, none⟩ = some (.slice (some ⟨pb, 0, none⟩) n pc) ∧ (set4 w8 (w.heap.size + 1) 5 i t x).cell? ⟨pb, t, none⟩ = some (.int .i64 q)) := ⟨hoc _ _ _ (by omega) hS.1, hoc _ _ _ (by omega) hS.2.1, hoc _ _ _ (by omega) hS.2.2.1, hoc _ _ _ (by omega) hS.2.2.2.1, hoc _ _ _ (by have := H.out.a_lt; omega) hS.2.2.2.2.1, hoc _ _ _ (by have := H.out.pb_lt; omega) hS.2.2.2.2.2⟩
    have HOUT := Lib.hid hout
    refine hK1.out _ (set4 w8 (w.heap.size + 1) 5 i t x) (fun _ => hS2) ?_
    clear hK1 K1 hout hoc hS hS2 f0 f1 f2 f3 g0 g1 g2 g3 z1 H8
    try simp only [List.setIfInBounds_toArray, List.set_cons_zero, List.set_cons_succ]
    refine wpAnyL_one (i := 25) (by kernel_rfl) rfl (fun K1 hK1 => ?_)
    go_simp
    refine hK1.out _ _ (fun h => absurd rfl h) ?_
    clear hK1 K1
    refine wpAnyL_done (by kernel_rfl) ?_ _
    go_wp2_with fail
    refine bodyPost_ret_by (results_fit rfl rfl HOUT.out.2 rfl) rfl ?_
    exact ⟨false, rfl, HOUT.out.1, fun h => by cases h⟩

/-- Fit: the numbers are rests, and what it lets through is a change that fits. -/
theorem fit_c (h : GR w n a pb pc kb kc T K) (hwf : WF n T) (hac : Acyc T) (hn0 : 0 < n) (hn : n ≤ 1000) (k0 i0 t0 x0 : Int) (m : Bool) :
    Calls Try.prog 24 #[.pointer (some ⟨a, 0, none⟩), .agg #[.int .i64 k0, .int .i64 i0, .int .i64 t0, .int .i64 x0], .bool m] w (FitPost w n T m (k0 % 6).toNat (i0 % n).toNat (t0 % n).toNat (x0 % n).toNat) := by
  have hb : ∀ z : Int, z % n = ((z % n).toNat : Int) ∧ (z % n).toNat < n := fun z => by
    have h1 := Int.emod_nonneg z (b := (n : Int)) (by omega)
    have h2 := Int.emod_lt_of_pos z (b := (n : Int)) (by omega)
    omega
  have hi := hb i0
  have ht := hb t0
  have hx := hb x0
  have hk0 : 0 ≤ k0 % 6 ∧ k0 % 6 < 6 := ⟨Int.emod_nonneg _ (by decide), Int.emod_lt_of_pos _ (by decide)⟩
  rcases (show k0 % 6 = 0 ∨ k0 % 6 = 1 ∨ k0 % 6 = 2 ∨ k0 % 6 = 3 ∨ k0 % 6 = 4 ∨ k0 % 6 = 5 by omega) with e | e | e | e | e | e
  · have c := fit_0 h hwf hac hn0 hn (m := m) e hi.1 ht.1 hx.1 hi.2 ht.2 hx.2
    rw [e]; exact c
  · have c := fit_1 (T := T) h hn0 hn (m := m) e hi.1 ht.1 hx.1 hi.2 ht.2 hx.2
    rw [e]; exact c
  · have c := fit_2 (T := T) h hn0 hn (m := m) e hi.1 ht.1 hx.1 hi.2 ht.2 hx.2
    rw [e]; exact c
  · have c := fit_34 (kn := 3) rfl (.inl rfl) h hwf hac hn0 hn (m := m) e hi.1 ht.1 hx.1 hi.2 ht.2 hx.2
    rw [e]; exact c
  · have c := fit_34 (kn := 4) rfl (.inr rfl) h hwf hac hn0 hn (m := m) e hi.1 ht.1 hx.1 hi.2 ht.2 hx.2
    rw [e]; exact c
  · have c := fit_5 h hwf hac hn0 hn (m := m) e hi.1 ht.1 hx.1 hi.2 ht.2 hx.2
    rw [e]; exact c
end
end Go.Proofs.Ytlggpodblabmdaa
