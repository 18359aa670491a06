/-
  A grove beside the row of the changes that made it; a lemma text, no statement of the seat.
-/
import Derived.Test.YtlggpodblabmdaaDo
import Derived.Test.YtlggpodblabmdaaLay
import Derived.Test.YtlggpodblabmdaaChanged
namespace Go.Proofs.Ytlggpodblabmdaa
open Go.RowKit

theorem runs_snoc : ∀ (cs : List Ch) (T : Gr) (c : Ch), runs T (cs ++ [c]) = (runs T cs).act c
  | [], _, _ => rfl
  | d :: cs, T, c => runs_snoc cs (T.act d) c
theorem valids_snoc : ∀ (cs : List Ch) (n : Nat) (T : Gr) (c : Ch), Valids n T cs → Valid n (runs T cs) c → Valids n T (cs ++ [c])
  | [], _, _, _, _, hc => ⟨hc, trivial⟩
  | d :: cs, n, T, c, h, hc => ⟨h.1, valids_snoc cs n (T.act d) c h.2 hc⟩

/-- The grove of T and the row of the changes cs lie in w, all of it behind W. -/
structure GrS (W : World) (n a pb pc kb kc : Nat) (T : Gr) (cs : List Ch) (K : Nat → Value) (v : Value) (w : World) : Prop where
  gr : GR w n a pb pc kb kc T K
  row : w.ownsRow W.heap.size 29 4 v cs.length (cs.flatMap chCells)
  below : Below W.heap.size W w
  base : W.heap.size ≤ a ∧ W.heap.size ≤ pb ∧ W.heap.size ≤ kb

section
variable {W w w' : World} {n a pb pc kb kc : Nat} {T T' : Gr} {cs : List Ch} {K : Nat → Value} {v : Value}

theorem GrS.drewN (h : GrS W n a pb pc kb kc T cs K v w) (q : Nat) : GrS W n a pb pc kb kc T cs K v (w.drewN q) :=
  ⟨h.gr.kept ((Kept.refl (fun _ => False) w).drewN q) id id id (fun _ _ _ _ => id), ((Kept.refl (fun _ => False) w).drewN q).row h.row (fun _ _ => id), ⟨h.below.os, h.below.tape, h.below.output, h.below.size, h.below.block⟩, h.base⟩

theorem GrS.alloc (h : GrS W n a pb pc kb kc T cs K v w) (o : Obj) : GrS W n a pb pc kb kc T cs K v (w.alloc o) :=
  ⟨h.gr.kept ((Kept.refl (fun _ => False) w).alloc o) id id id (fun _ _ _ _ => id), ((Kept.refl (fun _ => False) w).alloc o).row h.row (fun _ _ => id), h.below.alloc h.below.size o, h.base⟩

theorem GrS.over (h : GrS W n a pb pc kb kc T cs K v w) (hb : Below w.heap.size w w') : GrS W n a pb pc kb kc T cs K v w' :=
  ⟨h.gr.below hb, (Kept.of_below (S := fun _ => False) hb).row h.row (fun _ _ => id), h.below.trans (hb.mono h.below.size), h.base⟩

theorem GrS.step {e : Ending} (h : GrS W n a pb pc kb kc T cs K v w) (g : GPost w n a pb pc kb kc T' e w') : e = .returned (.tuple #[]) ∧ ∃ K', GrS W n a pb pc kb kc T' cs K' v w' := by
  obtain ⟨rfl, K', hg, hk⟩ := g
  refine ⟨rfl, K', hg, hk.row h.row (fun g hgo => ?_), ?_, h.base⟩
  · rintro (rfl | rfl)
    · exact row_types h.row h.gr.par (by decide) hgo rfl
    · exact row_types h.row h.gr.kid (by decide) hgo rfl
  · refine h.below.trans (hk.below h.below.size (fun k hk => ?_))
    have := h.base
    rintro (e | e) <;> omega

theorem GrS.app {v' : Value} {c : Ch} (h : GrS W n a pb pc kb kc T cs K v w) (hown : w'.ownsRow W.heap.size 29 4 v' (cs.length + 1) (cs.flatMap chCells ++ chCells c)) (hg : w.grownBy w' v.ownBlock) :
    GrS W n a pb pc kb kc T (cs ++ [c]) K v' w' := by
  have hk : Kept (fun b => v.ownBlock = some b) w w' := ⟨hg.os, hg.tape, hg.output, hg.size, fun k hk hs => hg.block k hk (fun e => hs e.symm)⟩
  refine ⟨h.gr.kept hk (fun e => ?_) (fun e => row_types h.row h.gr.par (by decide) e rfl) (fun e => row_types h.row h.gr.kid (by decide) e rfl) (fun i hi g hg e => row_types h.row (h.gr.row i hi) (by decide) e hg), ?_, ?_, h.base⟩
  · obtain ⟨_, ⟨hv, _⟩ | ⟨g1, cap1, cur, hv, _, hg', _⟩⟩ := h.row
    · rw [hv] at e; cases e
    · rw [hv] at e
      obtain rfl : g1 = a := by simpa [Value.ownBlock] using e
      rw [h.gr.box] at hg'; simp at hg'
  · simpa using hown
  · exact h.below.grown hg h.below.size (fun b hb => (h.row.lt b hb).1)
end

theorem Try.info29 : (Try.prog.info? 29).map (fun i => (i.zero, i.size, i.bytes)) = some (some (.agg #[.int .i64 0, .int .i64 0, .int .i64 0, .int .i64 0]), 4, 32) := by kernel_rfl

/-- So many children of the node 0. -/
def appended (N : Nat) : List Ch := (List.range N).map fun i => ⟨0, 0, 0, i + 1⟩
theorem appended_succ (N : Nat) : appended (N + 1) = appended N ++ [⟨0, 0, 0, N + 1⟩] := by simp [appended, List.range_succ]
theorem appended_len (N : Nat) : (appended N).length = N := by simp [appended]

theorem appended_valids (N : Nat) : ∀ j, j ≤ N → Valids (N + 1) Gr.new (appended j)
  | 0, _ => trivial
  | j + 1, h => by
    rw [appended_succ]
    exact valids_snoc _ _ _ _ (appended_valids N j (by omega)) ⟨by simp, by simp, by simp, by simp; omega, fun h => absurd h (by simp), fun h => absurd h (by simp)⟩

set_option maxHeartbeats 800000 in
theorem appended_w (n0 : Int) (W : World) : Calls Try.prog 3 #[.int .i64 n0] W fun e w' => e = .returned (.bool true) ∧ Below W.heap.size W w' := by
  obtain ⟨i0, hi, hz0, hz1, hz2⟩ := info_parts Try.info29
  have hb1 := Int.emod_nonneg n0 (b := 41) (by decide)
  have hb2 := Int.emod_lt_of_pos n0 (b := 41) (by decide)
  obtain ⟨N, hN⟩ : ∃ N : Nat, n0 % 41 = N := ⟨(n0 % 41).toNat, by omega⟩
  have hN40 : N ≤ 40 := by omega
  have HN := Lib.hid hN
  clear hb1 hb2 hN
  go_enter Try.func3, Try.ntmps3
  go_wp2_with fail
  refine (place_c n0 41 (by decide) (by decide) W).mono ?_
  rintro e w' ⟨rfl, rfl⟩
  simp only [show (((41 : Nat) : Int)) = 41 from rfl, HN.out]
  go_wp2_with fail
  refine (new_grove W (N + 1) (by omega) (by omega)).mono ?_
  rintro e w1 ⟨a, pb, pc, kb, kc, K, rfl, hgr, hb, ha, hp, hk, -⟩
  have HS := Lib.hid (show GrS W (N + 1) a pb pc kb kc Gr.new [] K (.slice none 0 0) w1 from ⟨hgr, World.ownsRow_nil _ _ _ _, hb, ha, hp, hk⟩)
  clear hgr hb ha hp hk
  go_wp2_with fail
  go_loopw [4, 12] (fun o i wr => ∃ j : Nat, j ≤ N ∧ i = .int .i64 j ∧ ∃ K, GrS W (N + 1) a pb pc kb kc (runs Gr.new (appended j)) (appended j) K o wr) (fun _ i _ => N - (intOf i).toNat)
  case atStart => exact ⟨0, Nat.zero_le _, rfl, K, HS.out⟩
  case round =>
    obtain ⟨j, hj, rfl, K1, hs⟩ := hrel
    have H1 := Lib.hid hs
    clear hs HS
    have HV := Lib.hid (appended_valids N j hj)
    have HWF := Lib.hid (valids_wf (N + 1) (appended j) _ (wf_new (N + 1)) HV.out)
    by_cases hjl : j < N
    · have hch : chV ⟨0, 0, 0, j + 1⟩ = .agg #[.int .i64 0, .int .i64 0, .int .i64 0, .int .i64 ((j : Int) + 1)] := by simp [chV]
      have hcc : chCells ⟨0, 0, 0, j + 1⟩ = [.int .i64 0, .int .i64 0, .int .i64 0, .int .i64 ((j : Int) + 1)] := by simp [chCells]
      have hva : Valid (N + 1) (runs Gr.new (appended j)) ⟨0, 0, 0, j + 1⟩ := ⟨by simp, by simp, by simp, by simp; omega, fun h => absurd h (by simp), fun h => absurd h (by simp)⟩
      have c := do_c H1.out.gr HWF.out (by omega) hva
      rw [hch] at c
      have HCC := Lib.hid hcc
      clear hch hcc hva
      go_wp2_with fail
      refine c.mono ?_
      intro e w2 hg
      obtain ⟨rfl, K2, h2⟩ := H1.out.step hg
      have hrow := h2.row
      have hsz := h2.below.size
      rw [appended_len] at hrow
      have H2 := Lib.hid h2
      clear h2 hg c H1
      go_wp2_with (at_builtin; refine wpList_append_own _ rfl _ _ 25 rfl W.heap.size 29 i0 (.agg #[.int .i64 0, .int .i64 0, .int .i64 0, .int .i64 0]) 4 32 Try.underlying25 hi hz0 hz1 hz2 rfl (by decide) _ _ _ rfl (hrow.alloc _) ⟨w2.heap.size, 0, none⟩ 1 1 [.int .i64 0, .int .i64 0, .int .i64 0, .int .i64 ((j : Int) + 1)] rfl rfl ?c1 ?c2 ?c3 ?c4 ?c5 ?_)
      case c1 => exact fun j1 u hu => World.news_of_block (heap_alloc_new w2 (.cells #[.int .i64 0, .int .i64 0, .int .i64 0, .int .i64 ((j : Int) + 1)] 29)) j1 u hu
      case c2 => intro u hu; simp at hu; rcases hu with rfl | rfl <;> rfl
      case c3 => unfold maxLen; omega
      case c4 => omega
      case c5 => simp; omega
      · intro v' w3 hown' hgrow _
        have h3 := (H2.out.alloc (.cells #[.int .i64 0, .int .i64 0, .int .i64 0, .int .i64 ((j : Int) + 1)] 29)).app (c := ⟨0, 0, 0, j + 1⟩) (v' := v') (w' := w3) (by rw [HCC.out, appended_len]; exact hown') hgrow
        rw [← runs_snoc, ← appended_succ] at h3
        have H3 := Lib.hid h3
        clear h3 hown' hgrow hrow H2
        go_wp2
        go_roundw
        case rel => exact ⟨j + 1, by omega, by go_num, K2, H3.out⟩
        case measure => simp [intOf]; omega
    · obtain rfl : j = N := by omega
      have hrow := H1.out.row
      have c := changed_c (j + 1) (by omega) (appended j) _ wr (ownsRow_base hrow (Nat.zero_le _)) (by rw [appended_len]; omega) HV.out
      clear hrow
      go_wp2_with fail
      refine c.mono ?_
      intro e w2 hl
      obtain ⟨v2, rfl, hr2, hb2⟩ := hl
      have HR2 := Lib.hid hr2
      have H2 := Lib.hid (H1.out.over hb2)
      clear c hr2 hb2 H1
      go_wp2_with fail
      refine (linksOf_c H2.out.gr HWF.out (by omega) (by omega)).mono ?_
      intro e w3 hl
      obtain ⟨v3, rfl, hr3, hb3⟩ := hl
      have HR3 := Lib.hid (ownsRow_base hr3 (Nat.zero_le _))
      have HR2' := Lib.hid (ownsRow_base ((Kept.of_below (S := fun _ => False) hb3).row HR2.out (fun _ _ => id)) (Nat.zero_le _))
      have HB := Lib.hid (H2.out.over hb3).below
      clear hr3 hb3 H2 HR2
      go_wp2_with fail
      refine (same_c (by omega) HR2'.out HR3.out).mono ?_
      rintro e w4 ⟨rfl, hb4⟩
      have HB4 := Lib.hid (HB.out.trans (hb4.mono HB.out.size))
      clear hb4
      go_wp2_with fail
      go_ret
      exact ⟨rfl, HB4.out⟩
end Go.Proofs.Ytlggpodblabmdaa
