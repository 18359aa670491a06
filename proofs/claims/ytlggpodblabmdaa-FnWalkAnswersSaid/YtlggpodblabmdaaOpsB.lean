/-
  What AppendChild, InsertBefore, InsertAfter and ReplaceChild do, by contracts; a lemma text, no statement of the seat.
-/
import Derived.Test.YtlggpodblabmdaaOpsA
namespace Go.Proofs.Ytlggpodblabmdaa
open Go.RowKit

/-- AppendChild behind ensureIsolated, of a node without children. -/
def appendOne (G : Nat → Nd) (i j : Nat) : Nat → Nd :=
  let G1 := upd G i { G i with first := some j }
  let G2 := upd G1 j { G1 j with next := none }
  let G3 := upd G2 j { G2 j with prev := none }
  let G4 := upd G3 j { G3 j with parent := some i }
  let G5 := upd G4 i { G4 i with last := some j }
  upd G5 i { G5 i with count := wrap64 ((G5 i).count + 1) }

/-- AppendChild behind ensureIsolated, of a node whose last child is l. -/
def appendMore (G : Nat → Nd) (i j l : Nat) : Nat → Nd :=
  let G2 := upd G l { G l with next := some j }
  let G3 := upd G2 j { G2 j with prev := some l }
  let G4 := upd G3 j { G3 j with parent := some i }
  let G5 := upd G4 i { G4 i with last := some j }
  upd G5 i { G5 i with count := wrap64 ((G5 i).count + 1) }

section
variable {w : World} {N : Nat → Nat} {n : Nat} {G : Nat → Nd}

theorem Step.setFirst {w0 : World} (s : Step N n w0 w G) {i : Nat} (hi : i < n) (x : Option Nat) {u : Value} (hu : nv N x = u) :
    Step N n w0 (w.setCell ⟨N i, 0, none⟩ u) (upd G i { G i with first := x }) := by
  subst hu; exact s.trans ⟨s.rep.set hi rfl, s.rep.kept_set hi _ _⟩
theorem Step.setLast {w0 : World} (s : Step N n w0 w G) {i : Nat} (hi : i < n) (x : Option Nat) {u : Value} (hu : nv N x = u) :
    Step N n w0 (w.setCell ⟨N i, 1, none⟩ u) (upd G i { G i with last := x }) := by
  subst hu; exact s.trans ⟨s.rep.set hi rfl, s.rep.kept_set hi _ _⟩
theorem Step.setCount {w0 : World} (s : Step N n w0 w G) {i : Nat} (hi : i < n) (x : Int) :
    Step N n w0 (w.setCell ⟨N i, 5, none⟩ (.int .i64 x)) (upd G i { G i with count := x }) :=
  s.trans ⟨s.rep.set hi rfl, s.rep.kept_set hi _ _⟩
theorem Step.incCount {w0 : World} (s : Step N n w0 w G) {i : Nat} (hi : i < n) :
    Step N n w0 (w.setCell ⟨N i, 5, none⟩ (.int .i64 (wrap64 ((G i).count + 1)))) (upd G i { G i with count := wrap64 ((G i).count + 1) }) := s.setCount hi _
theorem Step.at0 {w0 : World} (s : Step N n w0 w G) {i : Nat} (hi : i < n) {u : Value} (hu : nv N (G i).first = u) : w.cell? ⟨N i, 0, none⟩ = some u := by subst hu; exact s.rep.cell hi rfl
theorem Step.at1 {w0 : World} (s : Step N n w0 w G) {i : Nat} (hi : i < n) {u : Value} (hu : nv N (G i).last = u) : w.cell? ⟨N i, 1, none⟩ = some u := by subst hu; exact s.rep.cell hi rfl
theorem Step.some1 {w0 : World} (s : Step N n w0 w G) {i : Nat} (hi : i < n) : ∃ u, w.cell? ⟨N i, 1, none⟩ = some u := ⟨_, s.at1 hi rfl⟩
theorem Step.at5 {w0 : World} (s : Step N n w0 w G) {i : Nat} (hi : i < n) : w.cell? ⟨N i, 5, none⟩ = some (.int .i64 (G i).count) := s.rep.cell hi rfl

theorem Step.cnt {w0 : World} (s : Step N n w0 w G) {i : Nat} (hi : i < n) :
    ∃ c, w.cell? ⟨N i, 5, none⟩ = some (.int .i64 c) ∧ Step N n w0 (w.setCell ⟨N i, 5, none⟩ (.int .i64 (wrap64 (c + 1)))) (upd G i { G i with count := wrap64 ((G i).count + 1) }) :=
  ⟨_, s.at5 hi, s.incCount hi⟩

theorem append_one (h : Rep w N n G) (ok : Ok n G) {i j : Nat} (hi : i < n) (hj : j < n) (hf : (isolate G j i).first = none) :
    Calls Try.prog 51 #[.pointer (some ⟨N i, 0, none⟩), .iface 77 (.pointer (some ⟨N i, 0, none⟩)), .iface 77 (.pointer (some ⟨N j, 0, none⟩))] w fun e w' => e = .returned (.tuple #[]) ∧ Step N n w w' (appendOne (isolate G j) i j) := by
  have c := isolate_c h ok hj (v := .iface 77 (.pointer (some ⟨N j, 0, none⟩))) rfl
  clear h ok
  go_enter Try.func51, Try.ntmps51
  go_wp2_with fail
  refine c.mono ?_
  rintro e w1 ⟨rfl, s1⟩
  clear c
  have k0 := s1.at0 hi (u := .nilIface) (by rw [hf]; rfl)
  have z0 := s1.rep.free hi 0
  have s2 := s1.setFirst hi (some j) (u := .iface 77 (.pointer (some ⟨N j, 0, none⟩))) rfl
  clear s1 hf
  go_wp2_with fail
  refine (set_next s2.rep hj none rfl).mono ?_
  rintro e w2 ⟨rfl, s3⟩
  replace s3 := s2.trans s3
  clear s2 k0 z0
  go_wp2_with fail
  refine (set_prev s3.rep hj none rfl).mono ?_
  rintro e w3 ⟨rfl, s4⟩
  replace s3 := s3.trans s4
  clear s4
  go_wp2_with fail
  refine (set_parent s3.rep hj (some i) rfl).mono ?_
  rintro e w4 ⟨rfl, s4⟩
  replace s4 := s3.trans s4
  clear s3
  obtain ⟨l4, k1⟩ := s4.some1 hi
  have z1 := s4.rep.free hi 1
  have s5 := s4.setLast hi (some j) (u := .iface 77 (.pointer (some ⟨N j, 0, none⟩))) rfl
  clear s4
  have z5 := s5.rep.free hi 5
  obtain ⟨cv, k5, s6⟩ := s5.cnt hi
  clear s5
  go_wp2_with fail
  go_end0
  exact ⟨rfl, s6⟩

theorem append_more (h : Rep w N n G) (ok : Ok n G) {i j l : Nat} (hi : i < n) (hj : j < n) (hln : l < n) {f : Nat} (hf : (isolate G j i).first = some f) (hl : (isolate G j i).last = some l) :
    Calls Try.prog 51 #[.pointer (some ⟨N i, 0, none⟩), .iface 77 (.pointer (some ⟨N i, 0, none⟩)), .iface 77 (.pointer (some ⟨N j, 0, none⟩))] w fun e w' => e = .returned (.tuple #[]) ∧ Step N n w w' (appendMore (isolate G j) i j l) := by
  have c := isolate_c h ok hj (v := .iface 77 (.pointer (some ⟨N j, 0, none⟩))) rfl
  clear h ok
  go_enter Try.func51, Try.ntmps51
  go_wp2_with fail
  refine c.mono ?_
  rintro e w1 ⟨rfl, s1⟩
  clear c
  have k0 := s1.at0 hi (u := .iface 77 (.pointer (some ⟨N f, 0, none⟩))) (by rw [hf]; rfl)
  have k1 := s1.at1 hi (u := .iface 77 (.pointer (some ⟨N l, 0, none⟩))) (by rw [hl]; rfl)
  clear hf hl
  go_wp2_with fail
  refine (set_next s1.rep hln (some j) rfl).mono ?_
  rintro e w2 ⟨rfl, s2⟩
  replace s2 := s1.trans s2
  clear s1 k0 k1
  go_wp2_with fail
  refine (set_prev s2.rep hj (some l) rfl).mono ?_
  rintro e w3 ⟨rfl, s3⟩
  replace s3 := s2.trans s3
  clear s2
  go_wp2_with fail
  refine (set_parent s3.rep hj (some i) rfl).mono ?_
  rintro e w4 ⟨rfl, s4⟩
  replace s4 := s3.trans s4
  clear s3
  obtain ⟨l4, k1⟩ := s4.some1 hi
  have z1 := s4.rep.free hi 1
  have s5 := s4.setLast hi (some j) (u := .iface 77 (.pointer (some ⟨N j, 0, none⟩))) rfl
  clear s4
  have z5 := s5.rep.free hi 5
  obtain ⟨cv, k5, s6⟩ := s5.cnt hi
  clear s5
  go_wp2_with fail
  go_end0
  exact ⟨rfl, s6⟩

end
end Go.Proofs.Ytlggpodblabmdaa
