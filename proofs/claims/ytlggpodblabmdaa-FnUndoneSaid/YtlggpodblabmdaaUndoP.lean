/-
  A node that is put anywhere and removed leaves the tree as it was, in plain words; a lemma text, no statement of the seat.
-/
import Derived.Test.YtlggpodblabmdaaNodesW
namespace Go.Proofs.Ytlggpodblabmdaa
open Go.RowKit

theorem put_undone {n : Nat} {T : Gr} (h : WF n T) {p x i : Nat} (hx : T.par x = none) : x ∈ (T.put p i x).kids p ∧ (T.put p i x).drop p ((T.put p i x).place p x) = T := by
  obtain ⟨a, b, hab, ha, hb, hxa, hxb, hn, hput⟩ := put_kids h hx (p := p) (i := i)
  have hpl : (T.put p i x).place p x = a.length := by
    unfold Gr.place
    rw [hput]
    simp only [if_true]
    exact idx_mid a b x hxa
  rw [hpl, hput]
  refine ⟨by simp, ?_⟩
  have d1 : (a ++ x :: b).drop (a.length + 1) = b := by
    rw [show a ++ x :: b = (a ++ [x]) ++ b by simp, List.drop_left' (by simp)]
  have d2 : (a ++ x :: b).take a.length = a := by simp
  have d3 : (a ++ x :: b)[a.length]? = some x := by simp
  unfold Gr.drop
  cases T with
  | mk par kids =>
    simp only at hab hx
    congr 1
    · funext y
      simp only [if_true, d3, Option.some.injEq]
      by_cases e : x = y
      · subst e; simp [hx]
      · simp [e, Ne.symm e]
    · funext q
      simp only [if_true, d1, d2]
      by_cases e : q = p
      · subst e; simp [hab]
      · simp [e]

theorem act_undone {n : Nat} {T : Gr} (h : WF n T) {c : Ch} (hk : c.kind = 0 ∨ c.kind = 4 ∨ c.kind = 5) (hx : T.par c.what = none) (t : Nat) : (T.act c).act ⟨1, c.inn, t, c.what⟩ = T := by
  have hf : T.free c.what = T := by unfold Gr.free; rw [hx]
  have hp : ∃ i, T.act c = T.put c.inn i c.what := by
    unfold Gr.act
    rcases hk with e | e | e <;> simp only [e, hf] <;> exact ⟨_, rfl⟩
  obtain ⟨i, hi⟩ := hp
  rw [hi]
  obtain ⟨h1, h2⟩ := put_undone h (p := c.inn) (i := i) hx
  unfold Gr.act
  simp only [if_true, h1]
  exact h2

theorem Valid.up {n : Nat} {T : Gr} {c : Ch} (h : Valid n T c) : Valid (n + 1) T c :=
  ⟨h.kind, by have := h.inn; omega, by have := h.att; omega, by have := h.what; omega, h.child, h.behind⟩

theorem Valids.up : ∀ {n : Nat} (cs : List Ch) {T : Gr}, Valids n T cs → Valids (n + 1) T cs
  | _, [], _, _ => trivial
  | _, _ :: cs, _, h => ⟨h.1.up, Valids.up cs h.2⟩

theorem WF.up {n : Nat} {T : Gr} (h : WF n T) : WF (n + 1) T := ⟨h.nd, h.mem, fun p x hp => by have := h.lt p x hp; omega⟩

theorem WF.none {n : Nat} {T : Gr} (h : WF n T) {x : Nat} (hx : n ≤ x) : T.par x = none := by
  cases e : T.par x with
  | none => rfl
  | some p => have := (h.lt p x e).2; omega
end Go.Proofs.Ytlggpodblabmdaa
