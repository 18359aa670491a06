/-
  'laws.FnMoved' returns true for every input: a segment with another beginning, or another end, has the other one. No conditions.
  By an AI agent: the frame (the row's step, its closing) was written by the kit's proof-skeleton; the contracts and the walk are this claim's own.
-/
import Derived.Test.YtgcdhhpafdkhbaaRows
import Derived.WalkKit
import Derived.ProofKit
import Derived.OpenShut
import Derived.Deep.RegionWith
import Derived.BigQuiet
import Derived.Deep.QuietTactic
namespace Go.Proofs.Ytgcdhhpafdkhbaa.fnMoved
open Go.ChangeShapes Go.WideShapes Go.ChangeAt Go.RowKit
set_option linter.unusedVariables false      -- a walk need not use every 'w<i>' (that an integer argument fits its kind)

theorem own : ownKnob Try.prog.godebug = none := by kernel_rfl
/-- A segment as a block. -/
abbrev blk (a b n : Int) : Obj := .cells #[.int .i64 a, .int .i64 b, .int .i64 n, .bool false] 26

theorem new_seg (a b : Int) (w : World) :
    Calls Try.prog 5 #[.int .i64 a, .int .i64 b] w fun e w' => e = .returned (.agg #[.int .i64 a, .int .i64 b, .int .i64 0, .bool false]) ∧ w' = w.alloc (blk a b 0) := by
  go_enter Try.func5, Try.ntmps5
  go_wp2
  exact bodyPost_ret (v := .agg #[.int .i64 a, .int .i64 b, .int .i64 0, .bool false]) (by simp [results, Try.results5, go_sem]) rfl ⟨rfl, rfl⟩

theorem new_pad (a b n : Int) (w : World) :
    Calls Try.prog 8 #[.int .i64 a, .int .i64 b, .int .i64 n] w fun e w' => e = .returned (.agg #[.int .i64 a, .int .i64 b, .int .i64 n, .bool false]) ∧ w' = w.alloc (blk a b n) := by
  go_enter Try.func8, Try.ntmps8
  go_wp2
  exact bodyPost_ret (v := .agg #[.int .i64 a, .int .i64 b, .int .i64 n, .bool false]) (by simp [results, Try.results8, go_sem]) rfl ⟨rfl, rfl⟩

theorem lt_of_cell {w : World} {g o : Nat} {v : Value} (h : w.cell? ⟨g, o, none⟩ = some v) : g < w.heap.size := by
  unfold World.cell? at h
  rcases Nat.lt_or_ge g w.heap.size with h' | h'
  · exact h'
  · simp [Array.getElem?_eq_none h'] at h

theorem cell_alloc {w : World} {g o : Nat} {v : Value} (h : w.cell? ⟨g, o, none⟩ = some v) : ∀ ob, (w.alloc ob).cell? ⟨g, o, none⟩ = some v := fun ob => by
  have hb : Below w.heap.size w (w.alloc ob) := (Below.refl _ _).alloc (Nat.le_refl _) _
  rw [hb.cell (lt_of_cell h)]; exact h

theorem with_start (g : Nat) (y n v : Int) (w : World) (h1 : w.cell? ⟨g, 1, none⟩ = some (.int .i64 y)) (h2 : w.cell? ⟨g, 2, none⟩ = some (.int .i64 n)) :
    Calls Try.prog 6 #[.pointer (some ⟨g, 0, none⟩), .int .i64 v] w fun e w' => e = .returned (.agg #[.int .i64 v, .int .i64 y, .int .i64 n, .bool false]) ∧ w' = ((w.alloc (blk v y n)).alloc (blk v y n)).drew := by
  have k1 := cell_alloc h1
  have k2 := cell_alloc h2
  go_enter Try.func6, Try.ntmps6
  go_wp2
  go_region_with (go_at_call 8; refine (new_pad _ _ _ _).mono ?_; rintro e w1 ⟨rfl, rfl⟩)
  all_goals go_wp2
  all_goals exact bodyPost_ret (v := .agg #[.int .i64 v, .int .i64 y, .int .i64 n, .bool false]) (by simp [results, Try.results6, go_sem]) rfl ⟨rfl, rfl⟩

theorem with_stop (g : Nat) (x n v : Int) (w : World) (h1 : w.cell? ⟨g, 0, none⟩ = some (.int .i64 x)) (h2 : w.cell? ⟨g, 2, none⟩ = some (.int .i64 n)) :
    Calls Try.prog 7 #[.pointer (some ⟨g, 0, none⟩), .int .i64 v] w fun e w' => e = .returned (.agg #[.int .i64 x, .int .i64 v, .int .i64 n, .bool false]) ∧ w' = ((w.alloc (blk x v n)).alloc (blk x v n)).drew := by
  have k1 := cell_alloc h1
  have k2 := cell_alloc h2
  go_enter Try.func7, Try.ntmps7
  go_wp2
  go_region_with (go_at_call 8; refine (new_pad _ _ _ _).mono ?_; rintro e w1 ⟨rfl, rfl⟩)
  all_goals go_wp2
  all_goals exact bodyPost_ret (v := .agg #[.int .i64 x, .int .i64 v, .int .i64 n, .bool false]) (by simp [results, Try.results7, go_sem]) rfl ⟨rfl, rfl⟩
theorem Grown.drewN {W w' : World} (h : Grown W w') (n : Nat) : Grown W (w'.drewN n) := h

set_option maxHeartbeats 400000 in
theorem moved (a b v : Int) (w : World) :
    Calls Try.prog 4 #[.int .i64 a, .int .i64 b, .int .i64 v] w fun e w' => e = .returned (.tuple #[.int .i64 v, .int .i64 b, .int .i64 a, .int .i64 v]) ∧ Grown w w' := by
  go_enter Try.func4, Try.ntmps4
  go_wp2_with (first | (go_at_call 5; refine (new_seg _ _ _).mono ?_; rintro e w1 ⟨rfl, rfl⟩) | (go_at_call 6; refine (with_start _ b 0 _ _ ?_ ?_).mono ?_; rotate_right; rintro e w1 ⟨rfl, rfl⟩) | (go_at_call 7; refine (with_stop _ a 0 _ _ ?_ ?_).mono ?_; rotate_right; rintro e w1 ⟨rfl, rfl⟩))
  · go_quiet (fail)
    go_wp2
    refine bodyPost_ret (v := .tuple #[.int .i64 v, .int .i64 b, .int .i64 a, .int .i64 v]) (by simp [results, Try.results4, go_sem]) rfl ⟨rfl, ?_⟩
    repeat (first | exact Grown.refl _ | apply Grown.drewN | apply Grown.drew | apply Grown.alloc)
  all_goals go_simp
theorem grown_trans {a b c : World} (h : Grown a b) (k : Grown b c) : Grown a c :=
  ⟨World.keptBut_trans h.1 (World.keptBut_mono (fun _ f => f.elim) k.1), fun x => (k.2.1 x).trans (h.2.1 x), Nat.le_trans h.2.2 k.2.2⟩

theorem walk (a0 : Int) (a1 : Int) (a2 : Int) (w0 : (Lit.int .i64 a0).wf = true) (w1 : (Lit.int .i64 a1).wf = true) (w2 : (Lit.int .i64 a2).wf = true) (w : World) :
    Calls Try.prog 3 #[.int .i64 a0, .int .i64 a1, .int .i64 a2] w fun e w' => e = .returned (.bool true) ∧ Grown w w' := by
  go_enter Try.func3, Try.ntmps3
  go_wp2_with fail
  refine (moved _ _ _ _).mono ?_
  rintro e wa ⟨rfl, hg⟩
  go_wp2_with fail
  refine (moved _ _ _ _).mono ?_
  rintro e wb ⟨rfl, hg'⟩
  go_wp2_with fail
  go_ret
  exact ⟨rfl, grown_trans hg hg'⟩

/-! ### THE ROW's STEP: WRITTEN OUT: LEAVE IT -/
set_option maxRecDepth 100000 in
theorem lifted (os : Os) (started : os.Started) (H : Type) (enc : TypeId × Value → H) :
    ReturnsInHanded {} Try.checked os 3 .any (Rows.fnMovedSpec.pre6 enc Try.prog Try.f3 Rows.fnMovedRow.domain false) (Rows.fnMovedSpec.post enc Try.prog Try.f3 false true false false) := by
  refine returnsInHanded_of_change (C := Try.checked) own started (by kernel_rfl) Try.func3
    (ChangeSpec.witness6 (enc := enc) (C := Try.checked) false ⟨#[], #[.int .i64 0, .int .i64 0, .int .i64 0], []⟩ 8 (by kernel_rfl) (by kernel_rfl) (by kernel_rfl) (by kernel_rfl)) ?_
  intro W base args ds gs before hval0 hW hcnd _
  have hval : ∀ (j : Nat) t v, Try.f3.params[j]? = some t → args[j]? = some v → Value.okWide Try.prog W .any base t v := hval0
  have hW' := hW
  obtain ⟨p, q, hA0, hV, rfl, hfz, hnd⟩ := hW
  have hA : DataW.TrodAll enc Try.prog W 0 (fun _ => true) true Try.f3.params.toList args.toList ds p := hA0
  rw [Try.params3] at hA hval
  obtain ⟨v0, vs0, d0, ds0, p0, q0, hargs, rfl, rfl, h0, r0⟩ := trodAll_cons hA
  obtain ⟨v1, vs1, d1, ds1, p1, q1, rfl, rfl, rfl, h1, r1⟩ := trodAll_cons r0
  obtain ⟨v2, vs2, d2, ds2, p2, q2, rfl, rfl, rfl, h2, r2⟩ := trodAll_cons r1
  obtain ⟨rfl, rfl, rfl⟩ := trodAll_nil r2
  obtain rfl : args = #[v0, v1, v2] := by cases args; simp_all
  obtain ⟨rfl, rfl⟩ := trodVars_none hV
  obtain ⟨a0, rfl, rfl, rfl, w0⟩ := open_int Try.underlying3 (hval 0 3 v0 rfl rfl) h0
  obtain ⟨a1, rfl, rfl, rfl, w1⟩ := open_int Try.underlying3 (hval 1 3 v1 rfl rfl) h1
  obtain ⟨a2, rfl, rfl, rfl, w2⟩ := open_int Try.underlying3 (hval 2 3 v2 rfl rfl) h2
  clear hA0 hval0
  simp only [List.append_nil] at hW'
  refine (walk a0 a1 a2 w0 w1 w2 W).mono fun e W' ⟨he, hg⟩ => ?_
  subst he
  exact ⟨_, rfl, post_of_same (pa := []) (pv := []) hW' (fun _ _ _ => (trodAll_cons_mk (shut_bool Try.underlying4 _) trodAll_mk0)) (fun sp _ => (trodAll_cons_mk (shut_int Try.underlying3 w0) (trodAll_cons_mk (shut_int Try.underlying3 w1) (trodAll_cons_mk (shut_int Try.underlying3 w2) trodAll_mk0)))) (fun _ _ => rfl) rfl
    (hg.frame _) hg.2.1 (ok_one (by kernel_rfl) rfl (okWide_bool_mk Try.underlying4 _))⟩

theorem over : Rows.fnMovedRow.holds Try.pinned (OpenSpec.ofChange Rows.fnMovedSpec) :=
  OpenClaim.holds_of_wide 3 Try.f3 rfl rfl rfl rfl rfl rfl rfl ⟨rfl, rfl, rfl, rfl, rfl⟩ rfl rfl rfl rfl rfl (by kernel_rfl) Try.func3 (by kernel_rfl)
    (of_decide_eq_true (by kernel_rfl)) (by unfold Func.isWrapper; first | (rw [if_pos (by decide +kernel)]; kernel_rfl) | (rw [if_neg (by decide +kernel)]; exact ⟨rfl, rfl⟩))
    (fun os started H enc _ => lifted os started H enc)

/-- ████ THE STATEMENT ████ -/
theorem proved : Rows.FnMovedSaid :=
  over
#print axioms proved
end Go.Proofs.Ytgcdhhpafdkhbaa.fnMoved
