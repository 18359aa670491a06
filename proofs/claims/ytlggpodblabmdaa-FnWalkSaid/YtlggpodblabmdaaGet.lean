/-
  What the small methods of a node do, by contracts; a lemma text, no statement of the seat.
-/
import Derived.Test.YtlggpodblabmdaaBase
namespace Go.Proofs.Ytlggpodblabmdaa
open Go.RowKit

/-- The nodes lie in w' as G tells, and nothing but nodes has turned since w. -/
structure Step (N : Nat → Nat) (n : Nat) (w w' : World) (G : Nat → Nd) : Prop where
  rep : Rep w' N n G
  kept : Kept (InN N n) w w'

theorem Step.refl {N : Nat → Nat} {n : Nat} {w : World} {G : Nat → Nd} (h : Rep w N n G) : Step N n w w G := ⟨h, Kept.refl _ _⟩
theorem Step.trans {N : Nat → Nat} {n : Nat} {a b c : World} {G H : Nat → Nd} (h : Step N n a b G) (k : Step N n b c H) : Step N n a c H := ⟨k.rep, h.kept.trans k.kept⟩

section
variable {w : World} {N : Nat → Nat} {n : Nat} {G : Nat → Nd}

theorem get_parent (h : Rep w N n G) {i : Nat} (hi : i < n) {v : Value} (hv : nv N (G i).parent = v) :
    Calls Try.prog 68 #[.pointer (some ⟨N i, 0, none⟩)] w fun e w' => e = .returned v ∧ w = w' := by
  have hc := h.cell hi (o := 2) (v := nv N (G i).parent) rfl
  rw [hv] at hc
  clear hv h
  go_enter Try.func68, Try.ntmps68
  go_wp2
  go_ret
  exact ⟨rfl, rfl⟩

theorem get_first (h : Rep w N n G) {i : Nat} (hi : i < n) {v : Value} (hv : nv N (G i).first = v) :
    Calls Try.prog 57 #[.pointer (some ⟨N i, 0, none⟩)] w fun e w' => e = .returned v ∧ w = w' := by
  have hc := h.cell hi (o := 0) (v := nv N (G i).first) rfl
  rw [hv] at hc
  clear hv h
  go_enter Try.func57, Try.ntmps57
  go_wp2
  go_ret
  exact ⟨rfl, rfl⟩

theorem get_last (h : Rep w N n G) {i : Nat} (hi : i < n) {v : Value} (hv : nv N (G i).last = v) :
    Calls Try.prog 64 #[.pointer (some ⟨N i, 0, none⟩)] w fun e w' => e = .returned v ∧ w = w' := by
  have hc := h.cell hi (o := 1) (v := nv N (G i).last) rfl
  rw [hv] at hc
  clear hv h
  go_enter Try.func64, Try.ntmps64
  go_wp2
  go_ret
  exact ⟨rfl, rfl⟩

theorem get_next (h : Rep w N n G) {i : Nat} (hi : i < n) {v : Value} (hv : nv N (G i).next = v) :
    Calls Try.prog 66 #[.pointer (some ⟨N i, 0, none⟩)] w fun e w' => e = .returned v ∧ w = w' := by
  have hc := h.cell hi (o := 3) (v := nv N (G i).next) rfl
  rw [hv] at hc
  clear hv h
  go_enter Try.func66, Try.ntmps66
  go_wp2
  go_ret
  exact ⟨rfl, rfl⟩

theorem get_prev (h : Rep w N n G) {i : Nat} (hi : i < n) {v : Value} (hv : nv N (G i).prev = v) :
    Calls Try.prog 70 #[.pointer (some ⟨N i, 0, none⟩)] w fun e w' => e = .returned v ∧ w = w' := by
  have hc := h.cell hi (o := 4) (v := nv N (G i).prev) rfl
  rw [hv] at hc
  clear hv h
  go_enter Try.func70, Try.ntmps70
  go_wp2
  go_ret
  exact ⟨rfl, rfl⟩

theorem get_count (h : Rep w N n G) {i : Nat} (hi : i < n) :
    Calls Try.prog 55 #[.pointer (some ⟨N i, 0, none⟩)] w fun e w' => e = .returned (.int .i64 (G i).count) ∧ w = w' := by
  have hc := h.cell hi (o := 5) (v := .int .i64 (G i).count) rfl
  obtain ⟨v, hv⟩ : ∃ v, (G i).count = v := ⟨_, rfl⟩
  rw [hv] at hc ⊢
  clear hv h
  go_enter Try.func55, Try.ntmps55
  go_wp2
  go_ret
  exact ⟨rfl, rfl⟩

theorem get_has (h : Rep w N n G) {i : Nat} (hi : i < n) :
    Calls Try.prog 59 #[.pointer (some ⟨N i, 0, none⟩)] w fun e w' => e = .returned (.bool (G i).first.isSome) ∧ w = w' := by
  have hc := h.cell hi (o := 0) (v := nv N (G i).first) rfl
  obtain ⟨v, hv⟩ : ∃ v, (G i).first = v := ⟨_, rfl⟩
  rw [hv] at hc ⊢
  clear hv h
  cases v
  · rw [nv_none] at hc
    go_enter Try.func59, Try.ntmps59
    go_wp2
    go_ret
    exact ⟨rfl, rfl⟩
  · rw [nv_some] at hc
    go_enter Try.func59, Try.ntmps59
    go_wp2
    go_ret
    exact ⟨rfl, rfl⟩

theorem set_next (h : Rep w N n G) {i : Nat} (hi : i < n) (x : Option Nat) {u : Value} (hu : nv N x = u) :
    Calls Try.prog 79 #[.pointer (some ⟨N i, 0, none⟩), u] w fun e w' => e = .returned (.tuple #[]) ∧ Step N n w w' (upd G i { G i with next := x }) := by
  have hs : Step N n w (w.setCell ⟨N i, 3, none⟩ (nv N x)) (upd G i { G i with next := x }) := ⟨h.set hi rfl, h.kept_set hi _ _⟩
  have hc := h.cell hi (o := 3) (v := nv N (G i).next) rfl
  have hz := h.free hi 3
  obtain ⟨v, hv⟩ : ∃ v, nv N (G i).next = v := ⟨_, rfl⟩
  rw [hv] at hc
  rw [hu] at hs
  clear hv h
  cases x
  · rw [nv_none] at hu
    subst hu
    go_enter Try.func79, Try.ntmps79
    go_wp2
    go_end0
    exact ⟨rfl, hs⟩
  · rw [nv_some] at hu
    subst hu
    go_enter Try.func79, Try.ntmps79
    go_wp2
    go_end0
    exact ⟨rfl, hs⟩

theorem set_parent (h : Rep w N n G) {i : Nat} (hi : i < n) (x : Option Nat) {u : Value} (hu : nv N x = u) :
    Calls Try.prog 80 #[.pointer (some ⟨N i, 0, none⟩), u] w fun e w' => e = .returned (.tuple #[]) ∧ Step N n w w' (upd G i { G i with parent := x }) := by
  have hs : Step N n w (w.setCell ⟨N i, 2, none⟩ (nv N x)) (upd G i { G i with parent := x }) := ⟨h.set hi rfl, h.kept_set hi _ _⟩
  have hc := h.cell hi (o := 2) (v := nv N (G i).parent) rfl
  have hz := h.free hi 2
  obtain ⟨v, hv⟩ : ∃ v, nv N (G i).parent = v := ⟨_, rfl⟩
  rw [hv] at hc
  rw [hu] at hs
  clear hv h
  cases x
  · rw [nv_none] at hu
    subst hu
    go_enter Try.func80, Try.ntmps80
    go_wp2
    go_end0
    exact ⟨rfl, hs⟩
  · rw [nv_some] at hu
    subst hu
    go_enter Try.func80, Try.ntmps80
    go_wp2
    go_end0
    exact ⟨rfl, hs⟩

theorem set_prev (h : Rep w N n G) {i : Nat} (hi : i < n) (x : Option Nat) {u : Value} (hu : nv N x = u) :
    Calls Try.prog 82 #[.pointer (some ⟨N i, 0, none⟩), u] w fun e w' => e = .returned (.tuple #[]) ∧ Step N n w w' (upd G i { G i with prev := x }) := by
  have hs : Step N n w (w.setCell ⟨N i, 4, none⟩ (nv N x)) (upd G i { G i with prev := x }) := ⟨h.set hi rfl, h.kept_set hi _ _⟩
  have hc := h.cell hi (o := 4) (v := nv N (G i).prev) rfl
  have hz := h.free hi 4
  obtain ⟨v, hv⟩ : ∃ v, nv N (G i).prev = v := ⟨_, rfl⟩
  rw [hv] at hc
  rw [hu] at hs
  clear hv h
  cases x
  · rw [nv_none] at hu
    subst hu
    go_enter Try.func82, Try.ntmps82
    go_wp2
    go_end0
    exact ⟨rfl, hs⟩
  · rw [nv_some] at hu
    subst hu
    go_enter Try.func82, Try.ntmps82
    go_wp2
    go_end0
    exact ⟨rfl, hs⟩

end
end Go.Proofs.Ytlggpodblabmdaa
