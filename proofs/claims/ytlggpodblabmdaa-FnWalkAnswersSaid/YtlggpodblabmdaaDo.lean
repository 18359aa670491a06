/-
  The reference's Do by a contract; a lemma text, no statement of the seat.
-/
import Derived.Test.YtlggpodblabmdaaPut
namespace Go.Proofs.Ytlggpodblabmdaa
open Go.RowKit

/-- In the middle of Do: the grove, and the change in a block of its own. -/
structure DoSt (w : World) (n a pb pc kb kc : Nat) (T : Gr) (kk : Int) (i t x : Nat) (K : Nat → Value) (w1 : World) : Prop where
  gr : GR w1 n a pb pc kb kc T K
  kept : Kept (SG pb kb) w w1
  old : pb < w.heap.size ∧ kb < w.heap.size
  f0 : w1.cell? ⟨w.heap.size, 0, none⟩ = some (.int .i64 kk)
  f1 : w1.cell? ⟨w.heap.size, 1, none⟩ = some (.int .i64 i)
  f2 : w1.cell? ⟨w.heap.size, 2, none⟩ = some (.int .i64 t)
  f3 : w1.cell? ⟨w.heap.size, 3, none⟩ = some (.int .i64 x)

section
variable {w w1 w2 : World} {n a pb pc kb kc : Nat} {T T' : Gr} {K : Nat → Value}

theorem cell_new_of {w : World} {cs : Array Value} {t : TypeId} {o : Nat} {u : Value} (h : cs[o]? = some u) : (w.alloc (.cells cs t (0, 0))).cell? ⟨w.heap.size, o, none⟩ = some u := by
  have e : (w.alloc (.cells cs t (0, 0))).heap = w.heap.push (.cells cs t (0, 0)) := rfl
  simp [World.cell?, e, h]

theorem DoSt.start (h : GR w n a pb pc kb kc T K) (kk : Int) (i t x : Nat) :
    DoSt w n a pb pc kb kc T kk i t x K (w.alloc (.cells #[.int .i64 kk, .int .i64 i, .int .i64 t, .int .i64 x] 28 (0, 0))) :=
  ⟨h.kept ((Kept.refl (fun _ => False) w).alloc _) id id id (fun _ _ _ _ => id), (Kept.refl _ _).alloc _, ⟨h.pb_lt, h.kb_lt⟩, cell_new_of rfl, cell_new_of rfl, cell_new_of rfl, cell_new_of rfl⟩

theorem DoSt.drew {kk : Int} {i t x : Nat} (h : DoSt w n a pb pc kb kc T kk i t x K w1) : DoSt w n a pb pc kb kc T kk i t x K w1.drew :=
  ⟨h.gr.kept ((Kept.refl (fun _ => False) w1).drew) id id id (fun _ _ _ _ => id), h.kept.drew, h.old, h.f0, h.f1, h.f2, h.f3⟩

theorem DoSt.drewN {kk : Int} {i t x : Nat} (h : DoSt w n a pb pc kb kc T kk i t x K w1) (q : Nat) : DoSt w n a pb pc kb kc T kk i t x K (w1.drewN q) :=
  ⟨h.gr.kept ((Kept.refl (fun _ => False) w1).drewN q) id id id (fun _ _ _ _ => id), h.kept.drewN q, h.old, h.f0, h.f1, h.f2, h.f3⟩

theorem DoSt.step {kk : Int} {i t x : Nat} {e : Ending} (h : DoSt w n a pb pc kb kc T kk i t x K w1) (g : GPost w1 n a pb pc kb kc T' e w2) :
    e = .returned (.tuple #[]) ∧ ∃ K', DoSt w n a pb pc kb kc T' kk i t x K' w2 := by
  obtain ⟨rfl, K', hg, hk⟩ := g
  have hs : ¬ SG pb kb w.heap.size := by
    have := h.old
    rintro (e | e) <;> omega
  exact ⟨rfl, K', hg, h.kept.trans hk, h.old, hk.cell h.f0 hs, hk.cell h.f1 hs, hk.cell h.f2 hs, hk.cell h.f3 hs⟩

theorem DoSt.fin {kk : Int} {i t x : Nat} (h : DoSt w n a pb pc kb kc T kk i t x K w1) (e : T = T') : GPost w n a pb pc kb kc T' (.returned (.tuple #[])) w1 :=
  ⟨rfl, K, e ▸ h.gr, h.kept⟩

theorem plc_some (h : WF n T) {p x : Nat} (hx : T.par x = some p) : plc T p x = (T.place p x : Int) := by
  unfold plc plcL
  rw [if_pos ((h.mem p x).2 hx)]; rfl
theorem plc_none (h : WF n T) {p x : Nat} (hx : T.par x ≠ some p) : plc T p x = -1 := by
  unfold plc plcL
  rw [if_neg (fun e => hx ((h.mem p x).1 e))]
theorem at_place (h : WF n T) {p x : Nat} (hx : T.par x = some p) : (T.kids p)[T.place p x]? = some x := by
  obtain ⟨a, b, hab, -, -, -, hpl, -⟩ := h.split hx
  rw [hab, hpl]; simp
theorem place_le (T : Gr) (p x : Nat) : T.place p x ≤ (T.kids p).length := List.idxOf_le_length
theorem place_le_drop (h : WF n T) {p x : Nat} (hx : T.par x = some p) : T.place p x ≤ ((T.drop p (T.place p x)).kids p).length := by
  obtain ⟨a, b, hab, -, -, -, hpl, hdr⟩ := h.split hx
  rw [hdr, hpl]; simp
theorem place_lt (h : WF n T) {p x : Nat} (hx : T.par x = some p) : T.place p x + 1 ≤ (T.kids p).length := by
  obtain ⟨a, b, hab, -, -, -, hpl, hdr⟩ := h.split hx
  rw [hab, hpl]; simp
theorem WF.lens (h : WF n T) (hn : n ≤ 1000) : ∀ i, (T.kids i).length ≤ 1000 := fun i => Nat.le_trans (h.len i) hn

set_option maxHeartbeats 1600000 in
theorem do_0 (h : GR w n a pb pc kb kc T K) (hwf : WF n T) (hn : n ≤ 1000) {i t x : Nat} (hv : Valid n T ⟨0, i, t, x⟩) :
    Calls Try.prog 12 #[.pointer (some ⟨a, 0, none⟩), .agg #[.int .i64 0, .int .i64 i, .int .i64 t, .int .i64 x]] w (GPost w n a pb pc kb kc (T.act ⟨0, i, t, x⟩)) := by
  have hi : i < n := hv.inn
  have hx : x < n := hv.what
  have hact : T.act ⟨0, i, t, x⟩ = (T.free x).put i ((T.free x).kids i).length x := by simp [Gr.act]
  rw [hact]
  have hi0 : (0 : Int) ≤ (i : Int) := Int.natCast_nonneg _
  have hi1 : (i : Int) < (n : Int) := by omega
  have hx0 : (0 : Int) ≤ (x : Int) := Int.natCast_nonneg _
  have hx1 : (x : Int) < (n : Int) := by omega
  have HV := Lib.hid hv
  have H0 := Lib.hid (DoSt.start h 0 i t x)
  have HWF := Lib.hid hwf
  have HW1 := Lib.hid (hwf.free x)
  clear h hwf hv hact
  go_enter Try.func12, Try.ntmps12
  go_wp2_with fail
  obtain ⟨w0, hw0⟩ : ∃ w0, (w.alloc (.cells #[.int .i64 0, .int .i64 i, .int .i64 t, .int .i64 x] 28 (0, 0))) = w0 := ⟨_, rfl⟩
  rw [hw0] at H0 ⊢
  clear hw0
  have c0 := H0.out.gr.c0
  have c1 := H0.out.gr.c1
  have f0 := H0.out.f0
  have f1 := H0.out.f1
  have f2 := H0.out.f2
  have f3 := H0.out.f3
  have cp := H0.out.gr.par_at hx
  rcases hp : T.par x with _ | p
  case' none =>
    rw [hp] at cp
    simp only [pn] at cp
    have HT := Lib.hid (show T.free x = T by simp [Gr.free, hp])
    clear hp
    go_quiet (fail)
    go_wp2_with fail
    clear c0 c1 f0 f1 f2 f3 cp
    obtain ⟨w1, hw1⟩ : ∃ w1, w0.drewN nq = w1 := ⟨_, rfl⟩
    have H1 := H0.out.drewN nq
    rw [hw1] at H1 ⊢
    rw [← HT.out] at H1
    have H1 := Lib.hid H1
    clear H0 HT hw1
    obtain ⟨K1, HK1⟩ : ∃ K1, K1 = K := ⟨_, rfl⟩
    rw [← HK1] at H1
    clear HK1
  case' some =>
    rw [hp] at cp
    simp only [pn] at cp
    have HT := Lib.hid (show T.drop p (T.place p x) = T.free x by simp [Gr.free, hp])
    have hpn : p < n := (HWF.out.lt p x hp).1
    have HP := Lib.hid hp
    clear hp
    have hp0 : (0 : Int) ≤ (p : Int) := Int.natCast_nonneg _
    go_quiet (fail)
    go_wp2_with fail
    refine (placeG_c (H0.out.drewN _).gr (HWF.out.lens hn) hpn x).mono ?_
    rintro e w1 ⟨rfl, rfl⟩
    rw [plc_some HWF.out HP.out]
    go_wp2_with fail
    refine (drop_c (H0.out.drewN _).gr (HWF.out.lens hn) hpn (at_place HWF.out HP.out) hx).mono ?_
    intro e w1 hg
    rw [HT.out] at hg
    obtain ⟨rfl, K1, H1⟩ := (H0.out.drewN _).step hg
    have H1 := Lib.hid H1
    clear hg H0 HT c0 c1 f0 f1 f2 f3 cp HP hp0
    go_wp2_with fail
  all_goals
    have c0 := H1.out.gr.c0
    have c1 := H1.out.gr.c1
    have f0 := H1.out.f0
    have f1 := H1.out.f1
    have f2 := H1.out.f2
    have f3 := H1.out.f3
    have ck := H1.out.gr.kid_at hi
    obtain ⟨g, ao, cap, hvv, hcap, -⟩ := own_shape (H1.out.gr.row i hi)
    rw [hvv] at ck
    clear hvv hcap
    go_quiet (fail)
    go_wp2_with fail
    refine (put_c (H1.out.drewN _).gr (HW1.out.lens hn) hi (Nat.le_refl _) hx).mono ?_
    intro e w2 hg
    obtain ⟨rfl, K2, H2⟩ := (H1.out.drewN _).step hg
    have H2 := Lib.hid H2
    clear hg
    go_wp2_with fail
    go_end0
    exact H2.out.fin rfl

set_option maxHeartbeats 1600000 in
theorem do_3 (h : GR w n a pb pc kb kc T K) (hwf : WF n T) (hn : n ≤ 1000) {i t x : Nat} (hv : Valid n T ⟨3, i, t, x⟩) :
    Calls Try.prog 12 #[.pointer (some ⟨a, 0, none⟩), .agg #[.int .i64 3, .int .i64 i, .int .i64 t, .int .i64 x]] w (GPost w n a pb pc kb kc (T.act ⟨3, i, t, x⟩)) := by
  have hi : i < n := hv.inn
  have hx : x < n := hv.what
  have hact : T.act ⟨3, i, t, x⟩ = ((T.free x).drop i ((T.free x).place i t)).put i ((T.free x).place i t) x := by simp [Gr.act]
  rw [hact]
  have hi0 : (0 : Int) ≤ (i : Int) := Int.natCast_nonneg _
  have hi1 : (i : Int) < (n : Int) := by omega
  have hx0 : (0 : Int) ≤ (x : Int) := Int.natCast_nonneg _
  have hx1 : (x : Int) < (n : Int) := by omega
  have HV := Lib.hid hv
  have H0 := Lib.hid (DoSt.start h 3 i t x)
  have HWF := Lib.hid hwf
  have HW1 := Lib.hid (hwf.free x)
  clear h hwf hv hact
  go_enter Try.func12, Try.ntmps12
  go_wp2_with fail
  obtain ⟨w0, hw0⟩ : ∃ w0, (w.alloc (.cells #[.int .i64 3, .int .i64 i, .int .i64 t, .int .i64 x] 28 (0, 0))) = w0 := ⟨_, rfl⟩
  rw [hw0] at H0 ⊢
  clear hw0
  have c0 := H0.out.gr.c0
  have c1 := H0.out.gr.c1
  have f0 := H0.out.f0
  have f1 := H0.out.f1
  have f2 := H0.out.f2
  have f3 := H0.out.f3
  have cp := H0.out.gr.par_at hx
  rcases hp : T.par x with _ | p
  case' none =>
    rw [hp] at cp
    simp only [pn] at cp
    have HT := Lib.hid (show T.free x = T by simp [Gr.free, hp])
    clear hp
    go_quiet (fail)
    go_wp2_with fail
    clear c0 c1 f0 f1 f2 f3 cp
    obtain ⟨w1, hw1⟩ : ∃ w1, w0.drewN nq = w1 := ⟨_, rfl⟩
    have H1 := H0.out.drewN nq
    rw [hw1] at H1 ⊢
    rw [← HT.out] at H1
    have H1 := Lib.hid H1
    clear H0 HT hw1
    obtain ⟨K1, HK1⟩ : ∃ K1, K1 = K := ⟨_, rfl⟩
    rw [← HK1] at H1
    clear HK1
  case' some =>
    rw [hp] at cp
    simp only [pn] at cp
    have HT := Lib.hid (show T.drop p (T.place p x) = T.free x by simp [Gr.free, hp])
    have hpn : p < n := (HWF.out.lt p x hp).1
    have HP := Lib.hid hp
    clear hp
    have hp0 : (0 : Int) ≤ (p : Int) := Int.natCast_nonneg _
    go_quiet (fail)
    go_wp2_with fail
    refine (placeG_c (H0.out.drewN _).gr (HWF.out.lens hn) hpn x).mono ?_
    rintro e w1 ⟨rfl, rfl⟩
    rw [plc_some HWF.out HP.out]
    go_wp2_with fail
    refine (drop_c (H0.out.drewN _).gr (HWF.out.lens hn) hpn (at_place HWF.out HP.out) hx).mono ?_
    intro e w1 hg
    rw [HT.out] at hg
    obtain ⟨rfl, K1, H1⟩ := (H0.out.drewN _).step hg
    have H1 := Lib.hid H1
    clear hg H0 HT c0 c1 f0 f1 f2 f3 cp HP hp0
    go_wp2_with fail
  all_goals
    have c0 := H1.out.gr.c0
    have c1 := H1.out.gr.c1
    have f0 := H1.out.f0
    have f1 := H1.out.f1
    have f2 := H1.out.f2
    have f3 := H1.out.f3
    have ck := H1.out.gr.kid_at hi
    obtain ⟨g, ao, cap, hvv, hcap, -⟩ := own_shape (H1.out.gr.row i hi)
    rw [hvv] at ck
    clear hvv hcap
    go_quiet (fail)
    go_wp2_with fail
    have hpt := valid_free HWF.out HV.out (by simp)
    simp only at hpt
    have HPT := Lib.hid hpt
    clear hpt
    refine (placeG_c (H1.out.drewN _).gr (HW1.out.lens hn) hi t).mono ?_
    rintro e w2 ⟨rfl, rfl⟩
    rw [plc_some HW1.out HPT.out]
    obtain ⟨pl, hpl⟩ : ∃ pl, (T.free x).place i t = pl := ⟨_, rfl⟩
    have HPL := Lib.hid hpl
    rw [hpl]
    clear hpl
    have hpl0 : (0 : Int) ≤ (pl : Int) := Int.natCast_nonneg _
    have hpl1 : (pl : Int) ≤ 1000 := by have := place_le (T.free x) i t; have := HW1.out.lens hn i; rw [HPL.out] at *; omega
    go_wp2_with fail
    refine (drop_c (H1.out.drewN _).gr (HW1.out.lens hn) hi (by rw [← HPL.out]; exact at_place HW1.out HPT.out) (HW1.out.lt _ _ HPT.out).2).mono ?_
    intro e w2 hg
    obtain ⟨rfl, K2, H2⟩ := (H1.out.drewN _).step hg
    have H2 := Lib.hid H2
    clear hg c0 c1 f0 f1 f2 f3 ck
    have HW2 := Lib.hid (HW1.out.drop HPT.out)
    have g1 := H2.out.f1
    have g3 := H2.out.f3
    have hle := place_le_drop HW1.out HPT.out
    rw [HPL.out] at HW2 hle
    have HLE := Lib.hid hle
    clear hle
    go_wp2_with fail
    refine (put_c H2.out.gr (HW2.out.lens hn) hi HLE.out hx).mono ?_
    intro e w3 hg
    obtain ⟨rfl, K3, H3⟩ := H2.out.step hg
    have H3 := Lib.hid H3
    clear hg
    go_wp2_with fail
    go_end0
    exact H3.out.fin (by rw [HPL.out])

set_option maxHeartbeats 1600000 in
theorem do_4 (h : GR w n a pb pc kb kc T K) (hwf : WF n T) (hn : n ≤ 1000) {i t x : Nat} (hv : Valid n T ⟨4, i, t, x⟩) :
    Calls Try.prog 12 #[.pointer (some ⟨a, 0, none⟩), .agg #[.int .i64 4, .int .i64 i, .int .i64 t, .int .i64 x]] w (GPost w n a pb pc kb kc (T.act ⟨4, i, t, x⟩)) := by
  have hi : i < n := hv.inn
  have hx : x < n := hv.what
  have hact : T.act ⟨4, i, t, x⟩ = (T.free x).put i ((T.free x).place i t) x := by simp [Gr.act]
  rw [hact]
  have hi0 : (0 : Int) ≤ (i : Int) := Int.natCast_nonneg _
  have hi1 : (i : Int) < (n : Int) := by omega
  have hx0 : (0 : Int) ≤ (x : Int) := Int.natCast_nonneg _
  have hx1 : (x : Int) < (n : Int) := by omega
  have HV := Lib.hid hv
  have H0 := Lib.hid (DoSt.start h 4 i t x)
  have HWF := Lib.hid hwf
  have HW1 := Lib.hid (hwf.free x)
  clear h hwf hv hact
  go_enter Try.func12, Try.ntmps12
  go_wp2_with fail
  obtain ⟨w0, hw0⟩ : ∃ w0, (w.alloc (.cells #[.int .i64 4, .int .i64 i, .int .i64 t, .int .i64 x] 28 (0, 0))) = w0 := ⟨_, rfl⟩
  rw [hw0] at H0 ⊢
  clear hw0
  have c0 := H0.out.gr.c0
  have c1 := H0.out.gr.c1
  have f0 := H0.out.f0
  have f1 := H0.out.f1
  have f2 := H0.out.f2
  have f3 := H0.out.f3
  have cp := H0.out.gr.par_at hx
  rcases hp : T.par x with _ | p
  case' none =>
    rw [hp] at cp
    simp only [pn] at cp
    have HT := Lib.hid (show T.free x = T by simp [Gr.free, hp])
    clear hp
    go_quiet (fail)
    go_wp2_with fail
    clear c0 c1 f0 f1 f2 f3 cp
    obtain ⟨w1, hw1⟩ : ∃ w1, w0.drewN nq = w1 := ⟨_, rfl⟩
    have H1 := H0.out.drewN nq
    rw [hw1] at H1 ⊢
    rw [← HT.out] at H1
    have H1 := Lib.hid H1
    clear H0 HT hw1
    obtain ⟨K1, HK1⟩ : ∃ K1, K1 = K := ⟨_, rfl⟩
    rw [← HK1] at H1
    clear HK1
  case' some =>
    rw [hp] at cp
    simp only [pn] at cp
    have HT := Lib.hid (show T.drop p (T.place p x) = T.free x by simp [Gr.free, hp])
    have hpn : p < n := (HWF.out.lt p x hp).1
    have HP := Lib.hid hp
    clear hp
    have hp0 : (0 : Int) ≤ (p : Int) := Int.natCast_nonneg _
    go_quiet (fail)
    go_wp2_with fail
    refine (placeG_c (H0.out.drewN _).gr (HWF.out.lens hn) hpn x).mono ?_
    rintro e w1 ⟨rfl, rfl⟩
    rw [plc_some HWF.out HP.out]
    go_wp2_with fail
    refine (drop_c (H0.out.drewN _).gr (HWF.out.lens hn) hpn (at_place HWF.out HP.out) hx).mono ?_
    intro e w1 hg
    rw [HT.out] at hg
    obtain ⟨rfl, K1, H1⟩ := (H0.out.drewN _).step hg
    have H1 := Lib.hid H1
    clear hg H0 HT c0 c1 f0 f1 f2 f3 cp HP hp0
    go_wp2_with fail
  all_goals
    have c0 := H1.out.gr.c0
    have c1 := H1.out.gr.c1
    have f0 := H1.out.f0
    have f1 := H1.out.f1
    have f2 := H1.out.f2
    have f3 := H1.out.f3
    have ck := H1.out.gr.kid_at hi
    obtain ⟨g, ao, cap, hvv, hcap, -⟩ := own_shape (H1.out.gr.row i hi)
    rw [hvv] at ck
    clear hvv hcap
    go_quiet (fail)
    go_wp2_with fail
    have hpt := valid_free HWF.out HV.out (by simp)
    simp only at hpt
    have HPT := Lib.hid hpt
    clear hpt
    refine (placeG_c (H1.out.drewN _).gr (HW1.out.lens hn) hi t).mono ?_
    rintro e w2 ⟨rfl, rfl⟩
    rw [plc_some HW1.out HPT.out]
    obtain ⟨pl, hpl⟩ : ∃ pl, (T.free x).place i t = pl := ⟨_, rfl⟩
    have HPL := Lib.hid hpl
    rw [hpl]
    clear hpl
    have hpl0 : (0 : Int) ≤ (pl : Int) := Int.natCast_nonneg _
    have hpl1 : (pl : Int) ≤ 1000 := by have := place_le (T.free x) i t; have := HW1.out.lens hn i; rw [HPL.out] at *; omega
    go_wp2_with fail
    refine (put_c (H1.out.drewN _).gr (HW1.out.lens hn) hi (i := pl) (by rw [← HPL.out]; exact place_le _ _ _) hx).mono ?_
    intro e w2 hg
    obtain ⟨rfl, K2, H2⟩ := (H1.out.drewN _).step hg
    have H2 := Lib.hid H2
    clear hg
    go_wp2_with fail
    go_end0
    exact H2.out.fin (by rw [HPL.out])

set_option maxHeartbeats 1600000 in
theorem do_5 (h : GR w n a pb pc kb kc T K) (hwf : WF n T) (hn : n ≤ 1000) {i t x : Nat} (hv : Valid n T ⟨5, i, t, x⟩) :
    Calls Try.prog 12 #[.pointer (some ⟨a, 0, none⟩), .agg #[.int .i64 5, .int .i64 i, .int .i64 t, .int .i64 x]] w (GPost w n a pb pc kb kc (T.act ⟨5, i, t, x⟩)) := by
  have hi : i < n := hv.inn
  have hx : x < n := hv.what
  have hact : T.act ⟨5, i, t, x⟩ = (T.free x).put i ((T.free x).place i t + 1) x := by simp [Gr.act]
  rw [hact]
  have hi0 : (0 : Int) ≤ (i : Int) := Int.natCast_nonneg _
  have hi1 : (i : Int) < (n : Int) := by omega
  have hx0 : (0 : Int) ≤ (x : Int) := Int.natCast_nonneg _
  have hx1 : (x : Int) < (n : Int) := by omega
  have HV := Lib.hid hv
  have H0 := Lib.hid (DoSt.start h 5 i t x)
  have HWF := Lib.hid hwf
  have HW1 := Lib.hid (hwf.free x)
  clear h hwf hv hact
  go_enter Try.func12, Try.ntmps12
  go_wp2_with fail
  obtain ⟨w0, hw0⟩ : ∃ w0, (w.alloc (.cells #[.int .i64 5, .int .i64 i, .int .i64 t, .int .i64 x] 28 (0, 0))) = w0 := ⟨_, rfl⟩
  rw [hw0] at H0 ⊢
  clear hw0
  have c0 := H0.out.gr.c0
  have c1 := H0.out.gr.c1
  have f0 := H0.out.f0
  have f1 := H0.out.f1
  have f2 := H0.out.f2
  have f3 := H0.out.f3
  have cp := H0.out.gr.par_at hx
  rcases hp : T.par x with _ | p
  case' none =>
    rw [hp] at cp
    simp only [pn] at cp
    have HT := Lib.hid (show T.free x = T by simp [Gr.free, hp])
    clear hp
    go_quiet (fail)
    go_wp2_with fail
    clear c0 c1 f0 f1 f2 f3 cp
    obtain ⟨w1, hw1⟩ : ∃ w1, w0.drewN nq = w1 := ⟨_, rfl⟩
    have H1 := H0.out.drewN nq
    rw [hw1] at H1 ⊢
    rw [← HT.out] at H1
    have H1 := Lib.hid H1
    clear H0 HT hw1
    obtain ⟨K1, HK1⟩ : ∃ K1, K1 = K := ⟨_, rfl⟩
    rw [← HK1] at H1
    clear HK1
  case' some =>
    rw [hp] at cp
    simp only [pn] at cp
    have HT := Lib.hid (show T.drop p (T.place p x) = T.free x by simp [Gr.free, hp])
    have hpn : p < n := (HWF.out.lt p x hp).1
    have HP := Lib.hid hp
    clear hp
    have hp0 : (0 : Int) ≤ (p : Int) := Int.natCast_nonneg _
    go_quiet (fail)
    go_wp2_with fail
    refine (placeG_c (H0.out.drewN _).gr (HWF.out.lens hn) hpn x).mono ?_
    rintro e w1 ⟨rfl, rfl⟩
    rw [plc_some HWF.out HP.out]
    go_wp2_with fail
    refine (drop_c (H0.out.drewN _).gr (HWF.out.lens hn) hpn (at_place HWF.out HP.out) hx).mono ?_
    intro e w1 hg
    rw [HT.out] at hg
    obtain ⟨rfl, K1, H1⟩ := (H0.out.drewN _).step hg
    have H1 := Lib.hid H1
    clear hg H0 HT c0 c1 f0 f1 f2 f3 cp HP hp0
    go_wp2_with fail
  all_goals
    have c0 := H1.out.gr.c0
    have c1 := H1.out.gr.c1
    have f0 := H1.out.f0
    have f1 := H1.out.f1
    have f2 := H1.out.f2
    have f3 := H1.out.f3
    have ck := H1.out.gr.kid_at hi
    obtain ⟨g, ao, cap, hvv, hcap, -⟩ := own_shape (H1.out.gr.row i hi)
    rw [hvv] at ck
    clear hvv hcap
    go_quiet (fail)
    go_wp2_with fail
    have hpt := valid_free HWF.out HV.out (by simp)
    simp only at hpt
    have HPT := Lib.hid hpt
    clear hpt
    refine (placeG_c (H1.out.drewN _).gr (HW1.out.lens hn) hi t).mono ?_
    rintro e w2 ⟨rfl, rfl⟩
    rw [plc_some HW1.out HPT.out]
    obtain ⟨pl, hpl⟩ : ∃ pl, (T.free x).place i t = pl := ⟨_, rfl⟩
    have HPL := Lib.hid hpl
    rw [hpl]
    clear hpl
    have hpl0 : (0 : Int) ≤ (pl : Int) := Int.natCast_nonneg _
    have hpl1 : (pl : Int) ≤ 1000 := by have := place_le (T.free x) i t; have := HW1.out.lens hn i; rw [HPL.out] at *; omega
    go_wp2_with fail
    refine (put_c (H1.out.drewN _).gr (HW1.out.lens hn) hi (i := pl + 1) (by rw [← HPL.out]; exact place_lt HW1.out HPT.out) hx).mono ?_
    intro e w2 hg
    obtain ⟨rfl, K2, H2⟩ := (H1.out.drewN _).step hg
    have H2 := Lib.hid H2
    clear hg
    go_wp2_with fail
    go_end0
    exact H2.out.fin (by rw [HPL.out])

set_option maxHeartbeats 1600000 in
theorem do_1 (h : GR w n a pb pc kb kc T K) (hwf : WF n T) (hn : n ≤ 1000) {i t x : Nat} (hv : Valid n T ⟨1, i, t, x⟩) :
    Calls Try.prog 12 #[.pointer (some ⟨a, 0, none⟩), .agg #[.int .i64 1, .int .i64 i, .int .i64 t, .int .i64 x]] w (GPost w n a pb pc kb kc (T.act ⟨1, i, t, x⟩)) := by
  have hi : i < n := hv.inn
  have hx : x < n := hv.what
  have HA : T.act ⟨1, i, t, x⟩ = if x ∈ T.kids i then T.drop i (T.place i x) else T := by simp [Gr.act]
  have HA := Lib.hid HA
  obtain ⟨T2, hT2⟩ : ∃ T2, T.act ⟨1, i, t, x⟩ = T2 := ⟨_, rfl⟩
  rw [hT2] at HA ⊢
  have H0 := Lib.hid (DoSt.start h 1 i t x)
  have HWF := Lib.hid hwf
  clear h hwf hv hT2
  go_enter Try.func12, Try.ntmps12
  go_wp2_with fail
  obtain ⟨w0, hw0⟩ : ∃ w0, (w.alloc (.cells #[.int .i64 1, .int .i64 i, .int .i64 t, .int .i64 x] 28 (0, 0))) = w0 := ⟨_, rfl⟩
  rw [hw0] at H0 ⊢
  clear hw0
  refine (placeG_c H0.out.gr (HWF.out.lens hn) hi x).mono ?_
  rintro e w1 ⟨rfl, rfl⟩
  by_cases hp : T.par x = some i
  · rw [plc_some HWF.out hp]
    have HT := Lib.hid (show T.drop i (T.place i x) = T2 by rw [HA.out, if_pos ((HWF.out.mem i x).2 hp)])
    have HP := Lib.hid hp
    clear hp
    have f1 := H0.out.f1
    have hpl0 : (0 : Int) ≤ (T.place i x : Int) := Int.natCast_nonneg _
    go_wp2_with fail
    refine (drop_c H0.out.gr (HWF.out.lens hn) hi (at_place HWF.out HP.out) hx).mono ?_
    intro e w1 hg
    obtain ⟨rfl, K1, H1⟩ := H0.out.step hg
    have H1 := Lib.hid H1
    clear hg
    go_wp2_with fail
    refine bodyPost_ret (results_none rfl _ _ _) rfl ?_
    exact H1.out.fin HT.out
  · rw [plc_none HWF.out hp]
    have HT := Lib.hid (show T = T2 by rw [HA.out, if_neg (fun e => hp ((HWF.out.mem i x).1 e))])
    clear hp
    go_wp2_with fail
    refine bodyPost_ret (results_none rfl _ _ _) rfl ?_
    exact H0.out.fin HT.out

/-- So many of the children of i have been taken off, from the first one on. -/
def Gr.clr (T : Gr) (i k : Nat) : Gr := ⟨fun y => if y ∈ (T.kids i).take k then none else T.par y, fun q => if q = i then (T.kids i).drop k else T.kids q⟩

theorem clr_zero (T : Gr) (i : Nat) : T.clr i 0 = T := by
  unfold Gr.clr
  cases T with
  | mk par kids =>
    simp
    funext q
    split <;> simp_all
theorem clr_all (T : Gr) (i : Nat) : T.clr i (T.kids i).length = T.clear i := by
  unfold Gr.clr Gr.clear
  simp
theorem clr_next (T : Gr) (i k : Nat) : (T.clr i k).drop i 0 = T.clr i (k + 1) := by
  unfold Gr.drop Gr.clr
  simp only [if_true, List.take_zero, List.nil_append, Nat.zero_add, List.drop_drop, List.getElem?_drop, Nat.add_zero]
  congr 1
  · funext y
    rw [List.take_add_one]
    by_cases h1 : (T.kids i)[k]? = some y
    · simp [h1]
    · have : y ∉ (T.kids i)[k]?.toList := by simpa [Option.mem_def] using h1
      simp [h1, this]
  · funext q
    split <;> simp_all
theorem clr_lens (h : WF n T) (hn : n ≤ 1000) (i k : Nat) : ∀ q, ((T.clr i k).kids q).length ≤ 1000 := fun q => by
  unfold Gr.clr
  have h1 := h.lens hn q
  have h2 := h.lens hn i
  simp only
  split <;> simp <;> omega

set_option maxHeartbeats 1600000 in
theorem do_2 (h : GR w n a pb pc kb kc T K) (hwf : WF n T) (hn : n ≤ 1000) {i t x : Nat} (hv : Valid n T ⟨2, i, t, x⟩) :
    Calls Try.prog 12 #[.pointer (some ⟨a, 0, none⟩), .agg #[.int .i64 2, .int .i64 i, .int .i64 t, .int .i64 x]] w (GPost w n a pb pc kb kc (T.act ⟨2, i, t, x⟩)) := by
  have hi : i < n := hv.inn
  have HA : T.act ⟨2, i, t, x⟩ = T.clear i := by simp [Gr.act]
  rw [HA]
  have hi0 : (0 : Int) ≤ (i : Int) := Int.natCast_nonneg _
  have hi1 : (i : Int) < (n : Int) := by omega
  have hst := DoSt.start h 2 i t x
  rw [← clr_zero T i] at hst
  have H0 := Lib.hid hst
  have HWF := Lib.hid hwf
  clear h hwf hv HA hst
  go_enter Try.func12, Try.ntmps12
  go_wp2_with fail
  obtain ⟨w0, hw0⟩ : ∃ w0, (w.alloc (.cells #[.int .i64 2, .int .i64 i, .int .i64 t, .int .i64 x] 28 (0, 0))) = w0 := ⟨_, rfl⟩
  rw [hw0] at H0 ⊢
  clear hw0
  go_loopg [] ((T.kids i).length) (fun m wr => ∃ k, k + m = (T.kids i).length ∧ ∃ K, DoSt w n a pb pc kb kc (T.clr i k) 2 i t x K wr)
  case atStart => exact ⟨0, by omega, K, H0.out⟩
  case round =>
    obtain ⟨k, hk, K1, hd⟩ := hrel
    have H1 := Lib.hid hd
    clear hd H0
    have c0 := H1.out.gr.c0
    have c1 := H1.out.gr.c1
    have f0 := H1.out.f0
    have f1 := H1.out.f1
    have ck := H1.out.gr.kid_at hi
    obtain ⟨g, ao, cap, hvv, hcap, -⟩ := own_shape (H1.out.gr.row i hi)
    rw [hvv] at ck
    have hlk : ((T.clr i k).kids i).length = gk := by simp [Gr.clr]; omega
    rw [hlk] at ck
    have HK := Lib.hid hk
    clear hvv hcap hlk hk
    by_cases hg0 : gk = 0
    · subst hg0
      go_wp2_with fail
      go_quiet (fail)
      go_wp2_with fail
      refine bodyPost_ret (results_none rfl _ _ _) rfl ?_
      have e : k = (T.kids i).length := by have := HK.out; omega
      exact (H1.out.drewN _).fin (by rw [e, clr_all])
    · have hg1 : (0 : Int) < (gk : Int) := by omega
      have hx : ∃ y, (T.kids i)[k]? = some y := ⟨_, List.getElem?_eq_getElem (by have := HK.out; omega)⟩
      obtain ⟨y, hy⟩ := hx
      have HY := Lib.hid hy
      clear hy
      go_wp2_with fail
      go_quiet (fail)
      go_wp2_with fail
      refine (drop_c (H1.out.drewN _).gr (clr_lens HWF.out hn i k) hi (i := 0) (x := y) (by simpa [Gr.clr] using HY.out) (HWF.out.lt _ _ ((HWF.out.mem i y).1 (List.mem_of_getElem? HY.out))).2).mono ?_
      intro e w2 hg
      obtain ⟨rfl, K2, H2⟩ := (H1.out.drewN _).step hg
      rw [clr_next] at H2
      have H2 := Lib.hid H2
      clear hg
      go_wp2_with fail
      go_roundg (gk - 1)
      case measure => omega
      case rel => exact ⟨k + 1, by have := HK.out; omega, K2, H2.out⟩

/-- A change as a value. -/
def chV (c : Ch) : Value := .agg #[.int .i64 c.kind, .int .i64 c.inn, .int .i64 c.att, .int .i64 c.what]

theorem do_c (h : GR w n a pb pc kb kc T K) (hwf : WF n T) (hn : n ≤ 1000) {c : Ch} (hv : Valid n T c) :
    Calls Try.prog 12 #[.pointer (some ⟨a, 0, none⟩), chV c] w (GPost w n a pb pc kb kc (T.act c)) := by
  obtain ⟨k, i, t, x⟩ := c
  have hk : k ≤ 5 := hv.kind
  match k, hk, hv with
  | 0, _, hv => exact do_0 h hwf hn hv
  | 1, _, hv => exact do_1 h hwf hn hv
  | 2, _, hv => exact do_2 h hwf hn hv
  | 3, _, hv => exact do_3 h hwf hn hv
  | 4, _, hv => exact do_4 h hwf hn hv
  | 5, _, hv => exact do_5 h hwf hn hv
end
end Go.Proofs.Ytlggpodblabmdaa
