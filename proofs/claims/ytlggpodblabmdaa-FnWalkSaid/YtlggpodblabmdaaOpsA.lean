/-
  What RemoveChild does, by contracts; a lemma text, no statement of the seat.
-/
import Derived.Test.YtlggpodblabmdaaFacts
namespace Go.Proofs.Ytlggpodblabmdaa
open Go.RowKit

section
variable {w : World} {N : Nat → Nat} {n : Nat} {G : Nat → Nd}

/-- What RemoveChild does to a child that hangs between p and x. -/
def rmv (G : Nat → Nd) (i j : Nat) (p x : Option Nat) : Nat → Nd :=
  let G1 := upd G i { G i with count := wrap64 ((G i).count - 1) }
  let G2 := match p with | some p => upd G1 p { G1 p with next := x } | none => upd G1 i { G1 i with first := x }
  let G3 := match x with | some x => upd G2 x { G2 x with prev := p } | none => upd G2 i { G2 i with last := p }
  let G4 := upd G3 j { G3 j with parent := none }
  let G5 := upd G4 j { G4 j with prev := none }
  upd G5 j { G5 j with next := none }

def removeChild (G : Nat → Nd) (i j : Nat) : Nat → Nd := if (G j).parent = some i then rmv G i j (G j).prev (G j).next else G

theorem remove_none (h : Rep w N n G) {i j : Nat} (hi : i < n) (hj : j < n) (hp : (G j).parent ≠ some i) (hv : ∀ q, (G j).parent = some q → q < n) :
    Calls Try.prog 72 #[.pointer (some ⟨N i, 0, none⟩), .iface 77 (.pointer (some ⟨N i, 0, none⟩)), .iface 77 (.pointer (some ⟨N j, 0, none⟩))] w fun e w' => e = .returned (.tuple #[]) ∧ w = w' := by
  cases hq : (G j).parent with
  | none =>
    have c := get_parent h hj (v := .nilIface) (by rw [hq]; rfl)
    go_enter Try.func72, Try.ntmps72
    go_wp2_with fail
    refine c.mono ?_
    rintro e w' ⟨rfl, rfl⟩
    clear c
    go_wp2_with fail
    refine bodyPost_ret (results_none rfl _ _ _) rfl ?_
    exact ⟨rfl, rfl⟩
  | some q =>
    have hqi : q ≠ i := fun x => hp (by rw [hq, x])
    have c := get_parent h hj (v := .iface 77 (.pointer (some ⟨N q, 0, none⟩))) (by rw [hq]; rfl)
    have hE := neq_nodes h (hv q hq) hi (b := true) (by simp [hqi])
    clear hq hp hv hqi
    go_enter Try.func72, Try.ntmps72
    go_wp2_with fail
    refine c.mono ?_
    rintro e w' ⟨rfl, rfl⟩
    clear c
    go_wp2_with fail
    refine bodyPost_ret (results_none rfl _ _ _) rfl ?_
    exact ⟨rfl, rfl⟩

theorem remove_oo (h : Rep w N n G) {i j : Nat} (hi : i < n) (hj : j < n) (hp : (G j).parent = some i) (hpv : (G j).prev = none) (hxv : (G j).next = none) :
    Calls Try.prog 72 #[.pointer (some ⟨N i, 0, none⟩), .iface 77 (.pointer (some ⟨N i, 0, none⟩)), .iface 77 (.pointer (some ⟨N j, 0, none⟩))] w fun e w' => e = .returned (.tuple #[]) ∧ Step N n w w' (rmv G i j (none) (none)) := by
  have c := get_parent h hj (v := .iface 77 (.pointer (some ⟨N i, 0, none⟩))) (by rw [hp]; rfl)
  have hE := neq_nodes h hi hi (b := false) (by simp)
  have k := h.cell hi (o := 5) (v := .int .i64 (G i).count) rfl
  have z := h.free hi 5
  have s1 : Step N n w (w.setCell ⟨N i, 5, none⟩ (.int .i64 (wrap64 ((G i).count - 1)))) (upd G i { G i with count := wrap64 ((G i).count - 1) }) := ⟨h.set hi rfl, h.kept_set hi _ _⟩
  have e1 : ∀ k, ((upd G i { G i with count := wrap64 ((G i).count - 1) }) k).prev = (G k).prev := fun k => by unfold upd; split <;> simp_all
  have e2 : ∀ k, ((upd G i { G i with count := wrap64 ((G i).count - 1) }) k).next = (G k).next := fun k => by unfold upd; split <;> simp_all
  have c1 := get_prev s1.rep hj (v := .nilIface) (by rw [e1, hpv]; rfl)
  have c2 := get_next s1.rep hj (v := .nilIface) (by rw [e2, hxv]; rfl)
  clear hp hpv hxv e1 e2 h
  go_enter Try.func72, Try.ntmps72
  go_wp2_with fail
  refine c.mono ?_
  rintro e w' ⟨rfl, rfl⟩
  clear c
  go_wp2_with fail
  refine c1.mono ?_
  rintro e w' ⟨rfl, rfl⟩
  clear c1 hE k z
  go_wp2_with fail
  refine c2.mono ?_
  rintro e w' ⟨rfl, rfl⟩
  clear c2
  have k0 := s1.rep.cell hi (o := 0) (v := nv N (G i).first) (by rw [upd_same]; rfl)
  have z0 := s1.rep.free hi 0
  have s2 := s1.trans (Step.mk (s1.rep.set hi (o := 0) (v := .nilIface) (d := { (upd G i { G i with count := wrap64 ((G i).count - 1) }) i with first := none }) rfl) (s1.rep.kept_set hi _ _))
  clear s1
  obtain ⟨lv, k1⟩ : ∃ lv, _ = some lv := ⟨_, s2.rep.cell hi (o := 1) rfl⟩
  have z1 := s2.rep.free hi 1
  have s3 := s2.trans (Step.mk (s2.rep.set hi (o := 1) (v := .nilIface) (d := { (upd (upd G i { G i with count := wrap64 ((G i).count - 1) }) i { (upd G i { G i with count := wrap64 ((G i).count - 1) }) i with first := none }) i with last := none }) rfl) (s2.rep.kept_set hi _ _))
  clear s2
  go_wp2_with fail
  refine (set_parent s3.rep hj none rfl).mono ?_
  rintro e w4 ⟨rfl, s4⟩
  replace s4 := s3.trans s4
  clear s3 k1 z1 k0 z0
  go_wp2_with fail
  refine (set_prev s4.rep hj none rfl).mono ?_
  rintro e w5 ⟨rfl, s5⟩
  replace s5 := s4.trans s5
  clear s4
  go_wp2_with fail
  refine (set_next s5.rep hj none rfl).mono ?_
  rintro e w6 ⟨rfl, s6⟩
  replace s6 := s5.trans s6
  clear s5
  go_wp2_with fail
  go_end0
  exact ⟨rfl, s6⟩

theorem remove_ox (h : Rep w N n G) {i j : Nat} (hi : i < n) (hj : j < n) (hp : (G j).parent = some i) {x : Nat} (hxn : x < n) (hpv : (G j).prev = none) (hxv : (G j).next = some x) :
    Calls Try.prog 72 #[.pointer (some ⟨N i, 0, none⟩), .iface 77 (.pointer (some ⟨N i, 0, none⟩)), .iface 77 (.pointer (some ⟨N j, 0, none⟩))] w fun e w' => e = .returned (.tuple #[]) ∧ Step N n w w' (rmv G i j (none) (some x)) := by
  have c := get_parent h hj (v := .iface 77 (.pointer (some ⟨N i, 0, none⟩))) (by rw [hp]; rfl)
  have hE := neq_nodes h hi hi (b := false) (by simp)
  have k := h.cell hi (o := 5) (v := .int .i64 (G i).count) rfl
  have z := h.free hi 5
  have s1 : Step N n w (w.setCell ⟨N i, 5, none⟩ (.int .i64 (wrap64 ((G i).count - 1)))) (upd G i { G i with count := wrap64 ((G i).count - 1) }) := ⟨h.set hi rfl, h.kept_set hi _ _⟩
  have e1 : ∀ k, ((upd G i { G i with count := wrap64 ((G i).count - 1) }) k).prev = (G k).prev := fun k => by unfold upd; split <;> simp_all
  have e2 : ∀ k, ((upd G i { G i with count := wrap64 ((G i).count - 1) }) k).next = (G k).next := fun k => by unfold upd; split <;> simp_all
  have c1 := get_prev s1.rep hj (v := .nilIface) (by rw [e1, hpv]; rfl)
  have c2 := get_next s1.rep hj (v := .iface 77 (.pointer (some ⟨N x, 0, none⟩))) (by rw [e2, hxv]; rfl)
  clear hp hpv hxv e1 e2 h
  go_enter Try.func72, Try.ntmps72
  go_wp2_with fail
  refine c.mono ?_
  rintro e w' ⟨rfl, rfl⟩
  clear c
  go_wp2_with fail
  refine c1.mono ?_
  rintro e w' ⟨rfl, rfl⟩
  clear c1 hE k z
  go_wp2_with fail
  refine c2.mono ?_
  rintro e w' ⟨rfl, rfl⟩
  clear c2
  have k0 := s1.rep.cell hi (o := 0) (v := nv N (G i).first) (by rw [upd_same]; rfl)
  have z0 := s1.rep.free hi 0
  have s2 := s1.trans (Step.mk (s1.rep.set hi (o := 0) (v := .iface 77 (.pointer (some ⟨N x, 0, none⟩))) (d := { (upd G i { G i with count := wrap64 ((G i).count - 1) }) i with first := some x }) rfl) (s1.rep.kept_set hi _ _))
  clear s1
  go_wp2_with fail
  refine (set_prev s2.rep hxn (none) rfl).mono ?_
  rintro e w3 ⟨rfl, s3⟩
  replace s3 := s2.trans s3
  clear s2 k0 z0
  go_wp2_with fail
  refine (set_parent s3.rep hj none rfl).mono ?_
  rintro e w4 ⟨rfl, s4⟩
  replace s4 := s3.trans s4
  clear s3
  go_wp2_with fail
  refine (set_prev s4.rep hj none rfl).mono ?_
  rintro e w5 ⟨rfl, s5⟩
  replace s5 := s4.trans s5
  clear s4
  go_wp2_with fail
  refine (set_next s5.rep hj none rfl).mono ?_
  rintro e w6 ⟨rfl, s6⟩
  replace s6 := s5.trans s6
  clear s5
  go_wp2_with fail
  go_end0
  exact ⟨rfl, s6⟩

theorem remove_po (h : Rep w N n G) {i j : Nat} (hi : i < n) (hj : j < n) (hp : (G j).parent = some i) {p : Nat} (hpn : p < n) (hpv : (G j).prev = some p) (hxv : (G j).next = none) :
    Calls Try.prog 72 #[.pointer (some ⟨N i, 0, none⟩), .iface 77 (.pointer (some ⟨N i, 0, none⟩)), .iface 77 (.pointer (some ⟨N j, 0, none⟩))] w fun e w' => e = .returned (.tuple #[]) ∧ Step N n w w' (rmv G i j (some p) (none)) := by
  have c := get_parent h hj (v := .iface 77 (.pointer (some ⟨N i, 0, none⟩))) (by rw [hp]; rfl)
  have hE := neq_nodes h hi hi (b := false) (by simp)
  have k := h.cell hi (o := 5) (v := .int .i64 (G i).count) rfl
  have z := h.free hi 5
  have s1 : Step N n w (w.setCell ⟨N i, 5, none⟩ (.int .i64 (wrap64 ((G i).count - 1)))) (upd G i { G i with count := wrap64 ((G i).count - 1) }) := ⟨h.set hi rfl, h.kept_set hi _ _⟩
  have e1 : ∀ k, ((upd G i { G i with count := wrap64 ((G i).count - 1) }) k).prev = (G k).prev := fun k => by unfold upd; split <;> simp_all
  have e2 : ∀ k, ((upd G i { G i with count := wrap64 ((G i).count - 1) }) k).next = (G k).next := fun k => by unfold upd; split <;> simp_all
  have c1 := get_prev s1.rep hj (v := .iface 77 (.pointer (some ⟨N p, 0, none⟩))) (by rw [e1, hpv]; rfl)
  have c2 := get_next s1.rep hj (v := .nilIface) (by rw [e2, hxv]; rfl)
  clear hp hpv hxv e1 e2 h
  go_enter Try.func72, Try.ntmps72
  go_wp2_with fail
  refine c.mono ?_
  rintro e w' ⟨rfl, rfl⟩
  clear c
  go_wp2_with fail
  refine c1.mono ?_
  rintro e w' ⟨rfl, rfl⟩
  clear c1 hE k z
  go_wp2_with fail
  refine c2.mono ?_
  rintro e w' ⟨rfl, rfl⟩
  clear c2
  go_wp2_with fail
  refine (set_next s1.rep hpn (none) rfl).mono ?_
  rintro e w2 ⟨rfl, s2⟩
  replace s2 := s1.trans s2
  clear s1
  obtain ⟨lv, k1⟩ : ∃ lv, _ = some lv := ⟨_, s2.rep.cell hi (o := 1) rfl⟩
  have z1 := s2.rep.free hi 1
  have s3 := s2.trans (Step.mk (s2.rep.set hi (o := 1) (v := .iface 77 (.pointer (some ⟨N p, 0, none⟩))) (d := { (upd (upd G i { G i with count := wrap64 ((G i).count - 1) }) p { (upd G i { G i with count := wrap64 ((G i).count - 1) }) p with next := none }) i with last := some p }) rfl) (s2.rep.kept_set hi _ _))
  clear s2
  go_wp2_with fail
  refine (set_parent s3.rep hj none rfl).mono ?_
  rintro e w4 ⟨rfl, s4⟩
  replace s4 := s3.trans s4
  clear s3 k1 z1
  go_wp2_with fail
  refine (set_prev s4.rep hj none rfl).mono ?_
  rintro e w5 ⟨rfl, s5⟩
  replace s5 := s4.trans s5
  clear s4
  go_wp2_with fail
  refine (set_next s5.rep hj none rfl).mono ?_
  rintro e w6 ⟨rfl, s6⟩
  replace s6 := s5.trans s6
  clear s5
  go_wp2_with fail
  go_end0
  exact ⟨rfl, s6⟩

theorem remove_px (h : Rep w N n G) {i j : Nat} (hi : i < n) (hj : j < n) (hp : (G j).parent = some i) {p x : Nat} (hpn : p < n) (hxn : x < n) (hpv : (G j).prev = some p) (hxv : (G j).next = some x) :
    Calls Try.prog 72 #[.pointer (some ⟨N i, 0, none⟩), .iface 77 (.pointer (some ⟨N i, 0, none⟩)), .iface 77 (.pointer (some ⟨N j, 0, none⟩))] w fun e w' => e = .returned (.tuple #[]) ∧ Step N n w w' (rmv G i j (some p) (some x)) := by
  have c := get_parent h hj (v := .iface 77 (.pointer (some ⟨N i, 0, none⟩))) (by rw [hp]; rfl)
  have hE := neq_nodes h hi hi (b := false) (by simp)
  have k := h.cell hi (o := 5) (v := .int .i64 (G i).count) rfl
  have z := h.free hi 5
  have s1 : Step N n w (w.setCell ⟨N i, 5, none⟩ (.int .i64 (wrap64 ((G i).count - 1)))) (upd G i { G i with count := wrap64 ((G i).count - 1) }) := ⟨h.set hi rfl, h.kept_set hi _ _⟩
  have e1 : ∀ k, ((upd G i { G i with count := wrap64 ((G i).count - 1) }) k).prev = (G k).prev := fun k => by unfold upd; split <;> simp_all
  have e2 : ∀ k, ((upd G i { G i with count := wrap64 ((G i).count - 1) }) k).next = (G k).next := fun k => by unfold upd; split <;> simp_all
  have c1 := get_prev s1.rep hj (v := .iface 77 (.pointer (some ⟨N p, 0, none⟩))) (by rw [e1, hpv]; rfl)
  have c2 := get_next s1.rep hj (v := .iface 77 (.pointer (some ⟨N x, 0, none⟩))) (by rw [e2, hxv]; rfl)
  clear hp hpv hxv e1 e2 h
  go_enter Try.func72, Try.ntmps72
  go_wp2_with fail
  refine c.mono ?_
  rintro e w' ⟨rfl, rfl⟩
  clear c
  go_wp2_with fail
  refine c1.mono ?_
  rintro e w' ⟨rfl, rfl⟩
  clear c1 hE k z
  go_wp2_with fail
  refine c2.mono ?_
  rintro e w' ⟨rfl, rfl⟩
  clear c2
  go_wp2_with fail
  refine (set_next s1.rep hpn (some x) rfl).mono ?_
  rintro e w2 ⟨rfl, s2⟩
  replace s2 := s1.trans s2
  clear s1
  go_wp2_with fail
  refine (set_prev s2.rep hxn (some p) rfl).mono ?_
  rintro e w3 ⟨rfl, s3⟩
  replace s3 := s2.trans s3
  clear s2
  go_wp2_with fail
  refine (set_parent s3.rep hj none rfl).mono ?_
  rintro e w4 ⟨rfl, s4⟩
  replace s4 := s3.trans s4
  clear s3
  go_wp2_with fail
  refine (set_prev s4.rep hj none rfl).mono ?_
  rintro e w5 ⟨rfl, s5⟩
  replace s5 := s4.trans s5
  clear s4
  go_wp2_with fail
  refine (set_next s5.rep hj none rfl).mono ?_
  rintro e w6 ⟨rfl, s6⟩
  replace s6 := s5.trans s6
  clear s5
  go_wp2_with fail
  go_end0
  exact ⟨rfl, s6⟩

/-- Where a node leads to, there are nodes. -/
def Ok (n : Nat) (G : Nat → Nd) : Prop := ∀ i, i < n → (∀ q, (G i).first = some q → q < n) ∧ (∀ q, (G i).last = some q → q < n) ∧ (∀ q, (G i).parent = some q → q < n) ∧ (∀ q, (G i).next = some q → q < n) ∧ (∀ q, (G i).prev = some q → q < n)

theorem remove_c (h : Rep w N n G) (ok : Ok n G) {i j : Nat} (hi : i < n) (hj : j < n) {u v : Value} (hu : nv N (some i) = u) (hv : nv N (some j) = v) :
    Calls Try.prog 72 #[.pointer (some ⟨N i, 0, none⟩), u, v] w fun e w' => e = .returned (.tuple #[]) ∧ Step N n w w' (removeChild G i j) := by
  rw [nv_some] at hu hv
  subst hu; subst hv
  unfold removeChild
  obtain ⟨-, -, o3, o4, o5⟩ := ok j hj
  by_cases hp : (G j).parent = some i
  · rw [if_pos hp]
    cases hpv : (G j).prev with
    | none =>
      cases hxv : (G j).next with
      | none => exact remove_oo h hi hj hp hpv hxv
      | some x => exact remove_ox h hi hj hp (o4 x hxv) hpv hxv
    | some p =>
      cases hxv : (G j).next with
      | none => exact remove_po h hi hj hp (o5 p hpv) hpv hxv
      | some x => exact remove_px h hi hj hp (o5 p hpv) (o4 x hxv) hpv hxv
  · rw [if_neg hp]
    refine (remove_none h hi hj hp o3).mono ?_
    rintro e w' ⟨rfl, rfl⟩
    exact ⟨rfl, Step.refl h⟩

/-- ensureIsolated. -/
def isolate (G : Nat → Nd) (j : Nat) : Nat → Nd := match (G j).parent with | some i => removeChild G i j | none => G

theorem isolate_c (h : Rep w N n G) (ok : Ok n G) {j : Nat} (hj : j < n) {v : Value} (hv : nv N (some j) = v) :
    Calls Try.prog 86 #[v] w fun e w' => e = .returned (.tuple #[]) ∧ Step N n w w' (isolate G j) := by
  rw [nv_some] at hv
  subst hv
  unfold isolate
  cases hp : (G j).parent with
  | none =>
    have c := get_parent h hj (v := .nilIface) (by rw [hp]; rfl)
    go_enter Try.func86, Try.ntmps86
    go_wp2_with fail
    refine c.mono ?_
    rintro e w' ⟨rfl, rfl⟩
    clear c
    go_wp2_with fail
    go_end0
    exact ⟨rfl, Step.refl h⟩
  | some i =>
    have hi := (ok j hj).2.2.1 i hp
    have c := get_parent h hj (v := .iface 77 (.pointer (some ⟨N i, 0, none⟩))) (by rw [hp]; rfl)
    have c1 := remove_c h ok hi hj rfl rfl
    clear hp ok
    go_enter Try.func86, Try.ntmps86
    go_wp2_with fail
    refine c.mono ?_
    rintro e w' ⟨rfl, rfl⟩
    clear c
    go_wp2_with fail
    refine c1.mono ?_
    rintro e w1 ⟨rfl, s1⟩
    clear c1
    go_wp2_with fail
    go_end0
    exact ⟨rfl, s1⟩
end
end Go.Proofs.Ytlggpodblabmdaa
