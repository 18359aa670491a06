/-
  The function that impl.Walk hands over, by a contract; a lemma text, no statement of the seat.
-/
import Derived.Test.YtlggpodblabmdaaSpecWalk
import Derived.Test.YtlggpodblabmdaaDrop
namespace Go.Proofs.Ytlggpodblabmdaa
open Go.RowKit

@[go_sem] theorem callValue_34 (x y p q r : Value) (w : World) : (callValue (.func (.func 34) #[] #[p, q, r]) #[x, y]).run Try.prog w = .ok (.enter 34 #[x, y, p, q, r]) w := by kernel_rfl

theorem Try.info71 : (Try.prog.info? 71).map (fun i => (i.zero, i.size, i.bytes)) = some (some (.agg #[.int .i64 0, .bool false]), 2, 16) := by kernel_rfl

/-- What the function reads and writes: the visits l behind the box bo, the nodes' numbers behind bm, the answers gs behind br. -/
structure CB (N : Nat → Nat) (n : Nat) (G : Nat → Nd) (B bo bm br r : Nat) (ao : Option Addr) (gs : List Int) (gl cap : Nat) (l : List (Nat × Bool)) (v : Value) (w : World) : Prop where
  rep : Rep w N n G
  boxo : w.heap[bo]? = some (.cells #[v] 67 (0, 0))
  row : w.ownsRow B 71 2 v l.length (visL l)
  boxm : w.heap[bm]? = some (.cells #[.map (some r)] 58 (0, 0))
  map : MapIs w N r n
  boxr : w.heap[br]? = some (.cells #[.slice ao gl cap] 38 (0, 0))
  ints : IntsB w B ao gs
  base : B ≤ bo ∧ gs.length = gl

section
variable {N : Nat → Nat} {n : Nat} {G : Nat → Nd} {B bo bm br r : Nat} {ao : Option Addr} {gs : List Int} {gl cap : Nat} {l l' : List (Nat × Bool)} {v v' : Value} {w w2 : World}

theorem CB.drewN (h : CB N n G B bo bm br r ao gs gl cap l v w) (q : Nat) : CB N n G B bo bm br r ao gs gl cap l v (w.drewN q) :=
  ⟨⟨h.rep.blk, h.rep.inj⟩, h.boxo, ((Kept.refl (fun _ => False) w).drewN q).row h.row (fun _ _ => id), h.boxm, h.map, h.boxr, h.ints, h.base⟩

theorem CB.after (h : CB N n G B bo bm br r ao gs gl cap l v w) (ht : Tk 71 B w w2) (hr : w2.ownsRow B 71 2 v' l'.length (visL l')) : CB N n G B bo bm br r ao gs gl cap l' v' (w2.setCell ⟨bo, 0, none⟩ v') := by
  have ho := ht.at h.boxo (by decide)
  have hm := ht.at h.boxm (by decide)
  have ha := ht.at h.boxr (by decide)
  have hmap : w2.heap[r]? = some (.map (ents N n).toArray n) := by
    have h0 := h.map
    unfold MapIs at h0
    rw [ht.block r (lt_of_heap h0) (fun x => by
      obtain ⟨_, cs, z, e⟩ := x
      rw [h0] at e; cases e)]
    exact h0
  have hne : ∀ {k : Nat} {o : Obj}, w2.heap[k]? = some o → (∀ cs z, o ≠ .cells cs 67 z) → k ≠ bo := fun hk hcs e => by
    subst e; rw [ho] at hk; cases hk; exact hcs _ _ rfl
  have hset : ∀ {k : Nat} {o : Obj}, w2.heap[k]? = some o → (∀ cs z, o ≠ .cells cs 67 z) → (w2.setCell ⟨bo, 0, none⟩ v').heap[k]? = some o := fun hk hcs => by
    rw [Below.heap_setCell _ _ _ _ (hne hk hcs)]; exact hk
  refine ⟨⟨fun i hi => ?_, h.rep.inj⟩, heap_setCell_eq ho 0 v', ?_, hset hm (fun cs z e => by cases e), hset hmap (fun cs z e => by cases e), hset ha (fun cs z e => by cases e), ?_, h.base⟩
  · exact hset (ht.at (h.rep.blk i hi) (by decide)) (fun cs z e => by cases e)
  · refine Kept.row (S := fun k => k = bo) ((Kept.refl (fun k => k = bo) w2).setCell (Or.inl rfl) v') hr (fun g hg e => ?_)
    exact row_apart hr ho (by decide) hg e
  · have hB : B ≤ w.heap.size := by have := lt_of_heap h.boxo; have := h.base.1; omega
    exact h.ints.below ((ht.below hB).setCell h.base.1 v')

theorem CB.push {x : Nat} {e : Bool} (h : CB N n G B bo bm br r ao gs gl cap l v w) (hown : w2.ownsRow B 71 2 v' (l.length + 1) (visL l ++ [.int .i64 (x : Int), .bool e]))
    (hg : (w.alloc (.cells #[.int .i64 (x : Int), .bool e] 71)).grownBy w2 v.ownBlock) :
    CB N n G B bo bm br r ao gs gl cap (l ++ [(x, e)]) v' (w2.setCell ⟨bo, 0, none⟩ v') ∧ w2.cell? ⟨bo, 0, none⟩ = some v ∧ w2.frozen? ⟨bo, 0, none⟩ = false ∧ Below B w (w2.setCell ⟨bo, 0, none⟩ v') := by
  have ht : Tk 71 B w w2 := ((Tk.refl 71 B w).alloc _).trans (Tk.grown (h.row.alloc _) hg)
  have ho := ht.at h.boxo (by decide)
  have hB : B ≤ w.heap.size := by have := lt_of_heap h.boxo; have := h.base.1; omega
  exact ⟨h.after ht (by rw [visL_snoc]; simpa using hown), block_cell ho rfl, by simp [World.frozen?, ho], (ht.below hB).setCell h.base.1 v'⟩

theorem CB.holds {x : Nat} (h : CB N n G B bo bm br r ao gs gl cap l v w) (hx : x < n) (ht : Tk 71 B w w2) :
    w2.cell? ⟨bo, 0, none⟩ = some v ∧ w2.cell? ⟨bm, 0, none⟩ = some (.map (some r)) ∧ (Instr.lookup 58 (.map (some r)) (.iface 77 (.pointer (some ⟨N x, 0, none⟩))) false).run Try.prog w2 = .ok (.int .i64 x) w2 := by
  refine ⟨block_cell (ht.at h.boxo (by decide)) rfl, block_cell (ht.at h.boxm (by decide)) rfl, ?_⟩
  have hrep : Rep w2 N n G := ⟨fun i hi => ht.at (h.rep.blk i hi) (by decide), h.rep.inj⟩
  refine (map_look hrep hx ?_).1
  have h0 := h.map
  unfold MapIs at h0 ⊢
  rw [ht.block r (lt_of_heap h0) (fun x => by
    obtain ⟨_, cs, z, e⟩ := x
    rw [h0] at e; cases e)]
  exact h0

/-- The status that an answer means. -/
def stOf (a : Nat) : Int := if a = 0 then 3 else if a = 1 then 2 else 1

set_option maxRecDepth 100000 in
set_option maxHeartbeats 1600000 in
theorem callback_c (h : CB N n G B bo bm br r ao gs gl cap l v w) {i : Nat} (hi : i < n) (e : Bool) (hl : l.length ≤ 100000) (hgl : gl ≤ 2147483647) (hg3 : ∀ z ∈ gs, 0 ≤ z ∧ z < 3) :
    Calls Try.prog 34 #[.iface 77 (.pointer (some ⟨N i, 0, none⟩)), .bool e, .pointer (some ⟨bo, 0, none⟩), .pointer (some ⟨bm, 0, none⟩), .pointer (some ⟨br, 0, none⟩)] w
      fun e' w' => e' = .returned (.tuple #[.int .i64 (stOf (ansAt gs (l.length + 1))), .nilIface]) ∧ ∃ v', CB N n G B bo bm br r ao gs gl cap (l ++ [(i, e)]) v' w' ∧ Below B w w' := by
  obtain ⟨i0, hi0, hz0, hz1, hz2⟩ := info_parts Try.info71
  obtain ⟨vg, vao, vcap, rfl, -, -⟩ := own_shape h.row
  have HC := Lib.hid h
  have HG3 := Lib.hid hg3
  clear h hg3
  go_enter Try.func34, Try.ntmps34
  go_wp2_with fail
  obtain ⟨w1, hw1⟩ : ∃ w1, w.drew = w1 := ⟨_, rfl⟩
  have HC1 := Lib.hid (show CB N n G B bo bm br r ao gs gl cap l (.slice vao l.length vcap) w1 from by rw [← hw1]; exact HC.out.drewN 1)
  have HB1 := Lib.hid (show Below B w w1 from by rw [← hw1]; exact ⟨rfl, rfl, rfl, Nat.le_refl _, fun _ _ => rfl⟩)
  have hS := HC1.out.holds hi (Tk.refl 71 B w1)
  refine wp_region_lastD (fun w' => w'.cell? ⟨bo, 0, none⟩ = some (.slice vao l.length vcap) ∧ w'.cell? ⟨bm, 0, none⟩ = some (.map (some r)) ∧ (Instr.lookup 58 (.map (some r)) (.iface 77 (.pointer (some ⟨N i, 0, none⟩))) false).run Try.prog w' = .ok (.int .i64 i) w') 8 (by kernel_rfl) hw1 ?_
  clear hw1
  refine wpAnyL_take (i := 0) (v := ?v0) 9 rfl rfl (by kernel_rfl) (by kernel_rfl) (by kernel_rfl) (by kernel_rfl) (fun _ _ _ h => h) (by rfl) ?h0 hS ?r0
  case h0 => (intro w' hSw; obtain ⟨s1, s2, s3⟩ := hSw; go_simp <;> with_reducible rfl)
  simp only [List.setIfInBounds_toArray, List.set_cons_zero, List.set_cons_succ]
  refine wpAnyL_take (i := 1) (v := ?v1) 10 rfl rfl (by kernel_rfl) (by kernel_rfl) (by kernel_rfl) (by kernel_rfl) (fun _ _ _ h => h) (by rfl) ?h1 hS ?r1
  case h1 => (intro w' hSw; obtain ⟨s1, s2, s3⟩ := hSw; go_simp <;> with_reducible rfl)
  simp only [List.setIfInBounds_toArray, List.set_cons_zero, List.set_cons_succ]
  refine wpAnyL_take (i := 2) (v := ?v2) 11 rfl rfl (by kernel_rfl) (by kernel_rfl) (by kernel_rfl) (by kernel_rfl) (fun _ _ _ h => h) (by rfl) ?h2 hS ?r2
  case h2 => (intro w' hSw; obtain ⟨s1, s2, s3⟩ := hSw; go_simp <;> with_reducible rfl)
  simp only [List.setIfInBounds_toArray, List.set_cons_zero, List.set_cons_succ]
  refine wpAnyL_take (i := 3) (v := ?v3) 12 rfl rfl (by kernel_rfl) (by kernel_rfl) (by kernel_rfl) (by kernel_rfl) (fun _ _ _ h => h) (by rfl) ?h3 hS ?r3
  case h3 => (intro w' hSw; obtain ⟨s1, s2, s3⟩ := hSw; go_simp <;> with_reducible rfl)
  simp only [List.setIfInBounds_toArray, List.set_cons_zero, List.set_cons_succ]
  refine wpAnyL_take (i := 4) (v := ?v4) 13 rfl rfl (by kernel_rfl) (by kernel_rfl) (by kernel_rfl) (by kernel_rfl) (fun _ _ _ h => h) (by rfl) ?h4 hS ?r4
  case h4 => (intro w' hSw; obtain ⟨s1, s2, s3⟩ := hSw; go_simp <;> with_reducible rfl)
  simp only [List.setIfInBounds_toArray, List.set_cons_zero, List.set_cons_succ]
  refine wpAnyL_take (i := 5) (v := ?v5) 14 rfl rfl (by kernel_rfl) (by kernel_rfl) (by kernel_rfl) (by kernel_rfl) (fun _ _ _ h => h) (by rfl) ?h5 hS ?r5
  case h5 => (intro w' hSw; obtain ⟨s1, s2, s3⟩ := hSw; go_simp <;> with_reducible rfl)
  simp only [List.setIfInBounds_toArray, List.set_cons_zero, List.set_cons_succ]
  have HBo := Lib.hid HC1.out.base.1
  have hszb : B ≤ w1.heap.size := by have := lt_of_heap HC1.out.boxo; have := HBo.out; omega
  refine wpAnyL_one (i := 6) (by kernel_rfl) rfl (fun K1 hK1 => ?_)
  go_simp
  have hS2 := HC1.out.holds hi ((Tk.refl 71 B w1).alloc (.cells #[.int .i64 (i : Int), .bool e] 71))
  refine hK1.out _ _ (fun _ => hS2) ?_
  clear hK1 K1 hS
  try simp only [List.setIfInBounds_toArray, List.set_cons_zero, List.set_cons_succ]
  refine wpAnyL_oneD (i := 7) 16 (by kernel_rfl) rfl rfl (fun K1 hK1 => ?_)
  refine step_append_at _ (by rfl) (.tmp 9) (.tmp 15) 67 (by rfl) B 71 i0 (.agg #[.int .i64 0, .bool false]) 2 16 Try.underlying67 hi0 hz0 hz1 hz2 rfl (by decide) _ l.length _ (by rfl) (HC1.out.row.alloc _) ⟨w1.heap.size, 0, none⟩ 1 1 [.int .i64 (i : Int), .bool e] (by rfl) rfl (fun j1 u hu => World.news_of_block (heap_alloc_new w1 (.cells #[.int .i64 (i : Int), .bool e] 71)) j1 u hu) (by simp [Value.oneCell']) (by unfold maxLen; omega) (by omega) (by simp; omega) ?_
  intro v2 w2 hown2 hgrow2
  have ht2 : Tk 71 B w1 w2 := ((Tk.refl 71 B w1).alloc (.cells #[.int .i64 (i : Int), .bool e] 71)).trans (Tk.grown (HC1.out.row.alloc _) hgrow2)
  have hS3 := HC1.out.holds hi ht2
  obtain ⟨g2, ao2, cap2, rfl, -, -⟩ := own_shape hown2
  obtain ⟨hc3, k7, y7, hb3⟩ := HC1.out.push hown2 hgrow2
  have HC3 := Lib.hid hc3
  have HB3 := Lib.hid (HB1.out.trans (hb3.mono (Nat.le_refl _)))
  refine hK1.out _ _ (fun _ => hS3) ?_
  clear hK1 K1 hS2 hown2 hgrow2 ht2 hS3 hc3 hb3
  simp only [List.setIfInBounds_toArray, List.set_cons_zero, List.set_cons_succ]
  refine wpAnyL_one (i := 8) (by kernel_rfl) rfl (fun K1 hK1 => ?_)
  go_simp
  refine hK1.out _ _ (fun h => absurd rfl h) ?_
  clear hK1 K1
  refine wpAnyL_done (by kernel_rfl) ?_ _
  obtain ⟨w3, hw3⟩ : ∃ w3, w2.setCell ⟨bo, 0, none⟩ (.slice ao2 (l.length + 1) cap2) = w3 := ⟨_, rfl⟩
  rw [hw3] at HC3 HB3 ⊢
  clear hw3 k7 y7
  have hm2 : l.length + 1 ≤ 100001 := by omega
  have hm1 : 0 < l.length + 1 := by omega
  obtain ⟨m, hm⟩ : ∃ m, l.length + 1 = m := ⟨_, rfl⟩
  have HM := Lib.hid hm
  rw [hm] at HC3 hm1 hm2 ⊢
  clear hm
  have ko := block_cell HC3.out.boxo (o := 0) rfl
  have kr := block_cell HC3.out.boxr (o := 0) rfl
  by_cases hg0 : gl = 0
  · have hnil : gs = [] := List.length_eq_zero_iff.1 (HC3.out.base.2.trans hg0)
    have HA := Lib.hid (show stOf (ansAt gs m) = 3 from by rw [hnil]; rfl)
    have hgi : ((gl : Int) == 0) = true := by simp; omega
    clear hnil hg0
    go_wp2_with fail
    go_ret2
    exact ⟨by rw [HM.out, HA.out]; rfl, _, HC3.out, HB3.out⟩
  · obtain ⟨b, off, rfl, hbB, hc⟩ := HC3.out.ints (by rw [HC3.out.base.2]; omega)
    have hlt : (m - 1) % gl < gl := Nat.mod_lt _ (by omega)
    obtain ⟨j, hj⟩ : ∃ j, (m - 1) % gl = j := ⟨_, rfl⟩
    have hjl : j < gl := by rw [← hj]; exact hlt
    have hcell := hc j (by rw [HC3.out.base.2]; exact hjl)
    obtain ⟨u, hu⟩ : ∃ u, gs.getD j 0 = u := ⟨_, rfl⟩
    rw [hu] at hcell
    have hu3 : 0 ≤ u ∧ u < 3 := by
      refine HG3.out u ?_
      rw [← hu, List.getD_eq_getElem?_getD, List.getElem?_eq_getElem (by rw [HC3.out.base.2]; exact hjl)]
      exact List.getElem_mem _
    have HA := Lib.hid (show ansAt gs m = (u % 3).toNat from by
      unfold ansAt
      rw [if_neg (fun e => hg0 (by rw [← HC3.out.base.2, e]; rfl)), HC3.out.base.2, hj, hu])
    have hw1 : IntKind.i64.wrap ((m : Int) - 1) = (m : Int) - 1 := IntWalk.i64_in _ (by omega)
    have hm1' : (0 : Int) ≤ (m : Int) - 1 := by omega
    have hl1 : (0 : Int) < (gl : Int) := by omega
    have hl2 : ¬ (gl : Int) = 0 := by omega
    have hrem : ((m : Int) - 1).tmod (gl : Int) = (j : Int) := by
      rw [Int.tmod_eq_emod_of_nonneg hm1', ← hj]
      have : ((m : Int) - 1) = ((m - 1 : Nat) : Int) := by omega
      rw [this]; rfl
    have hrem2 : ((m : Int) - 1) % (gl : Int) = (j : Int) := by
      rw [← hj]
      have : ((m : Int) - 1) = ((m - 1 : Nat) : Int) := by omega
      rw [this]; rfl
    have hj0 : (0 : Int) ≤ (j : Int) := Int.natCast_nonneg _
    have hj1 : (j : Int) < (gl : Int) := by omega
    have hll : ((gl : Int) == 0) = false := by simp; omega
    have hll2 : (gl == 0) = false := by simp; omega
    clear hc hlt hj hu hg0 hbB
    go_wp2_with fail
    go_quiet (fail)
    have HC4 := Lib.hid (HC3.out.drewN nq)
    have HB4 := Lib.hid (show Below B w (w3.drewN nq) from ⟨HB3.out.os, HB3.out.tape, HB3.out.output, HB3.out.size, HB3.out.block⟩)
    generalize w3.drewN nq = w4 at HC4 HB4 ⊢
    clear hrem hrem2 hw1 hcell ko kr
    rcases (show u = 0 ∨ u = 1 ∨ u = 2 by omega) with rfl | rfl | rfl
    all_goals
      go_wp2_with fail
      go_ret2
      exact ⟨by rw [HM.out, HA.out]; rfl, _, HC4.out, HB4.out⟩
end
end Go.Proofs.Ytlggpodblabmdaa
