/-
  What is left of the grove when a parent and a list of children have been written; a lemma text, no statement of the seat.
-/
import Derived.Test.YtlggpodblabmdaaAbove
namespace Go.Proofs.Ytlggpodblabmdaa
open Go.RowKit

/-- The blocks of the grove that a change turns. -/
def SG (pb kb b : Nat) : Prop := b = pb ∨ b = kb

/-- What a change of the grove leaves. -/
def GPost (w : World) (n a pb pc kb kc : Nat) (T : Gr) (e : Ending) (w' : World) : Prop :=
  e = .returned (.tuple #[]) ∧ ∃ K, GR w' n a pb pc kb kc T K ∧ Kept (SG pb kb) w w'

theorem heap_setCell_eq {w : World} {b : Nat} {cs : Array Value} {t : TypeId} (h : w.heap[b]? = some (.cells cs t (0, 0))) (o : Nat) (u : Value) : (w.setCell ⟨b, o, none⟩ u).heap[b]? = some (.cells (cs.setIfInBounds o u) t (0, 0)) := by
  simp [World.setCell, Array.getElem?_modify, h]

theorem map_set (n x : Nat) (f : Nat → Value) (u : Value) : ((List.range n).map f).set x u = (List.range n).map fun i => if i = x then u else f i := by
  apply List.ext_getElem?
  intro i
  rw [List.getElem?_set]
  by_cases e : x = i
  · subst e
    by_cases h : x < n
    · simp [h]
    · simp [h]
  · by_cases h : i < n
    · simp [e, h, Ne.symm e]
    · simp [e, h]

section
variable {w w2 : World} {n a pb pc kb kc : Nat} {T T' : Gr} {K : Nat → Value}

theorem grove_par (h : GR w n a pb pc kb kc T K) {x : Nat} (o : Option Nat) : GR (w.setCell ⟨pb, x, none⟩ (.int .i64 (pn o))) n a pb pc kb kc ⟨fun y => if y = x then o else T.par y, T.kids⟩ K := by
  refine ⟨?_, ?_, ?_, ?_, h.apart⟩
  · rw [Below.heap_setCell _ _ _ _ h.a_pb]; exact h.box
  · have := (h.par.stored x (.int .i64 (pn o))).1
    rw [map_set] at this
    rw [show (List.range n).map (fun i => Value.int .i64 (pn (if i = x then o else T.par i))) = (List.range n).map fun i => if i = x then .int .i64 (pn o) else .int .i64 (pn (T.par i)) from
      List.map_congr_left (fun i _ => by by_cases e : i = x <;> simp [e])]
    exact this
  · exact ownsRow_setCell_other h.kid (by simp [Value.ownBlock, Ne.symm h.pb_kb]) _
  · exact fun i hi => ownsRow_setCell_other (h.row i hi) (by exact h.apart i hi) _

theorem grove_kid (h : GR w n a pb pc kb kc T K) {p : Nat} {L : List Nat} {v : Value} (hv : w.ownsRow 0 3 1 v L.length (ints L)) (hne : v.ownBlock ≠ some pb) :
    GR (w.setCell ⟨kb, p, none⟩ v) n a pb pc kb kc ⟨T.par, fun q => if q = p then L else T.kids q⟩ (fun q => if q = p then v else K q) := by
  refine ⟨?_, ?_, ?_, ?_, ?_⟩
  · rw [Below.heap_setCell _ _ _ _ h.a_kb]; exact h.box
  · exact ownsRow_setCell_other h.par (by simp [Value.ownBlock, h.pb_kb]) _
  · have := (h.kid.stored p v).1
    rw [map_set] at this
    exact this
  · intro i hi
    by_cases e : i = p
    · simp only [e, if_true]
      exact ownsRow_setCell_other hv (a := ⟨kb, p, none⟩) (row_types h.kid hv (by decide) rfl) _
    · simp only [e, if_false]
      exact ownsRow_setCell_other (h.row i hi) (a := ⟨kb, p, none⟩) (h.row_kb hi) _
  · intro i hi
    by_cases e : i = p
    · simp only [e, if_true]; exact hne
    · simp only [e, if_false]; exact h.apart i hi

/-- The parent of x is written; then, behind new blocks, the children of p. -/
theorem grove_set (h : GR w n a pb pc kb kc T K) {p x : Nat} {o : Option Nat} {L : List Nat} {v : Value}
    (hb : Below (w.setCell ⟨pb, x, none⟩ (.int .i64 (pn o))).heap.size (w.setCell ⟨pb, x, none⟩ (.int .i64 (pn o))) w2)
    (hv : w2.ownsRow (w.setCell ⟨pb, x, none⟩ (.int .i64 (pn o))).heap.size 3 1 v L.length (ints L)) :
    GPost w n a pb pc kb kc ⟨fun y => if y = x then o else T.par y, fun q => if q = p then L else T.kids q⟩ (.returned (.tuple #[])) (w2.setCell ⟨kb, p, none⟩ v) := by
  have h1 := (grove_par h (x := x) o).below hb
  have hsz : (w.setCell ⟨pb, x, none⟩ (.int .i64 (pn o))).heap.size = w.heap.size := by simp [World.setCell]
  have hne : v.ownBlock ≠ some pb := fun e => by
    have := (hv.lt pb e).1
    have := h.pb_lt
    omega
  refine ⟨rfl, _, grove_kid h1 (ownsRow_base hv (Nat.zero_le _)) hne, ?_⟩
  exact (((Kept.refl (SG pb kb) w).setCell (p := ⟨pb, x, none⟩) (.inl (.inl rfl)) _).trans (Kept.of_below hb)).setCell (p := ⟨kb, p, none⟩) (.inl (.inr rfl)) _
end
end Go.Proofs.Ytlggpodblabmdaa
