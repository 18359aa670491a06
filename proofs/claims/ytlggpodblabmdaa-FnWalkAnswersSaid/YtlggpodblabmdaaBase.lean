/-
  What holds of a world in which nodes lie, each in a block of its own; a lemma text, no statement of the seat.
-/
import Derived.Test.YtlggpodblabmdaaRows
import Derived.WalkKit
import Derived.WalkSpells
import Derived.Outline
import Derived.Deep.DeepFit
import Derived.Deep.RegionWith
import Derived.BigQuiet
import Derived.Deep.QuietTactic
namespace Go.Proofs.Ytlggpodblabmdaa
open Go.RowKit

/-- Of the blocks of w none but those in S has turned. -/
structure Kept (S : Nat → Prop) (w w' : World) : Prop where
  os : w'.os = w.os
  tape : w'.tape = w.tape
  output : w'.output = w.output
  size : w.heap.size ≤ w'.heap.size
  block : ∀ k, k < w.heap.size → ¬ S k → w'.heap[k]? = w.heap[k]?

theorem Kept.refl (S : Nat → Prop) (w : World) : Kept S w w := ⟨rfl, rfl, rfl, Nat.le_refl _, fun _ _ _ => rfl⟩
theorem Kept.trans {S : Nat → Prop} {a b c : World} (h : Kept S a b) (k : Kept S b c) : Kept S a c :=
  ⟨k.os.trans h.os, k.tape.trans h.tape, k.output.trans h.output, Nat.le_trans h.size k.size, fun i hi hs => (k.block i (Nat.lt_of_lt_of_le hi h.size) hs).trans (h.block i hi hs)⟩
theorem Kept.mono {S T : Nat → Prop} {w w' : World} (h : Kept S w w') (hs : ∀ k, k < w.heap.size → S k → T k) : Kept T w w' :=
  ⟨h.os, h.tape, h.output, h.size, fun k hk ht => h.block k hk (fun x => ht (hs k hk x))⟩
theorem Kept.alloc {S : Nat → Prop} {a w : World} (h : Kept S a w) (o : Obj) : Kept S a (w.alloc o) :=
  h.trans ⟨rfl, rfl, rfl, by simp, fun k hk _ => Below.heap_alloc _ _ _ hk⟩
theorem Kept.drew {S : Nat → Prop} {a w : World} (h : Kept S a w) : Kept S a w.drew := ⟨h.os, h.tape, h.output, h.size, h.block⟩
theorem Kept.drewN {S : Nat → Prop} {a w : World} (h : Kept S a w) (n : Nat) : Kept S a (w.drewN n) := ⟨h.os, h.tape, h.output, h.size, h.block⟩
theorem Kept.setCell {S : Nat → Prop} {a w : World} (h : Kept S a w) {p : Addr} (hp : S p.block ∨ a.heap.size ≤ p.block) (u : Value) : Kept S a (w.setCell p u) :=
  ⟨h.os, h.tape, h.output, by simpa [World.setCell] using h.size, fun k hk hs => by
    rw [Below.heap_setCell _ _ _ _ (by rintro rfl; rcases hp with hp | hp; exact hs hp; omega)]; exact h.block k hk hs⟩
theorem Kept.below {S : Nat → Prop} {w w' : World} {B : Nat} (h : Kept S w w') (hB : B ≤ w.heap.size) (hS : ∀ k, k < B → ¬ S k) : Below B w w' :=
  ⟨h.os, h.tape, h.output, h.size, fun k hk => h.block k (by omega) (hS k hk)⟩
theorem Kept.of_below {S : Nat → Prop} {w w' : World} (h : Below w.heap.size w w') : Kept S w w' :=
  ⟨h.os, h.tape, h.output, h.size, fun k hk _ => h.block k hk⟩
theorem Kept.cell {S : Nat → Prop} {w w' : World} (h : Kept S w w') {p : Addr} {v : Value} (hc : w.cell? p = some v) (hs : ¬ S p.block) : w'.cell? p = some v := by
  rw [World.cell?_of_block (h.block p.block (World.block_lt_of_cell? w _ hc) hs)]; exact hc

/-- A node as it is told: the numbers of the nodes that it leads to, and its count. -/
structure Nd where
  first : Option Nat
  last : Option Nat
  parent : Option Nat
  next : Option Nat
  prev : Option Nat
  count : Int

def Nd.new : Nd := ⟨none, none, none, none, none, 0⟩

/-- A node as a value of type ast.Node. -/
def nv (N : Nat → Nat) : Option Nat → Value
  | none => .nilIface
  | some i => .iface 77 (.pointer (some ⟨N i, 0, none⟩))

theorem nv_none (N : Nat → Nat) : nv N none = .nilIface := rfl
theorem nv_some (N : Nat → Nat) (i : Nat) : nv N (some i) = .iface 77 (.pointer (some ⟨N i, 0, none⟩)) := rfl

def cellsOf (N : Nat → Nat) (d : Nd) : Array Value :=
  #[nv N d.first, nv N d.last, nv N d.parent, nv N d.next, nv N d.prev, .int .i64 d.count, .slice none 0 0, .bool false, .int .i64 0, .slice none 0 0, .bool false]

/-- The nodes 0 .. n - 1 lie in w, node i in block N i, as G tells. -/
structure Rep (w : World) (N : Nat → Nat) (n : Nat) (G : Nat → Nd) : Prop where
  blk : ∀ i, i < n → w.heap[N i]? = some (.cells (cellsOf N (G i)) 99 (0, 0))
  inj : ∀ i j, i < n → j < n → N i = N j → i = j

/-- The blocks of the nodes. -/
def InN (N : Nat → Nat) (n : Nat) (b : Nat) : Prop := ∃ i, i < n ∧ N i = b

def upd (G : Nat → Nd) (i : Nat) (d : Nd) : Nat → Nd := fun j => if j = i then d else G j

theorem upd_same (G : Nat → Nd) (i : Nat) (d : Nd) : upd G i d i = d := if_pos rfl
theorem upd_other (G : Nat → Nd) {i j : Nat} (d : Nd) (h : j ≠ i) : upd G i d j = G j := if_neg h

section
variable {w w' : World} {N : Nat → Nat} {n : Nat} {G : Nat → Nd}

theorem Rep.lt (h : Rep w N n G) {i : Nat} (hi : i < n) : N i < w.heap.size := by
  have := h.blk i hi
  rcases Nat.lt_or_ge (N i) w.heap.size with h' | h'
  · exact h'
  · simp [Array.getElem?_eq_none h'] at this

theorem Rep.cell (h : Rep w N n G) {i : Nat} (hi : i < n) {o : Nat} {v : Value} (ho : (cellsOf N (G i))[o]? = some v) : w.cell? ⟨N i, o, none⟩ = some v := by
  simp [World.cell?, h.blk i hi, ho]

theorem Rep.free (h : Rep w N n G) {i : Nat} (hi : i < n) (o : Nat) : w.frozen? ⟨N i, o, none⟩ = false := by
  simp [World.frozen?, h.blk i hi]

theorem Rep.kept {S : Nat → Prop} (h : Rep w N n G) (k : Kept S w w') (hs : ∀ i, i < n → ¬ S (N i)) : Rep w' N n G :=
  ⟨fun i hi => by rw [k.block _ (h.lt hi) (hs i hi)]; exact h.blk i hi, h.inj⟩

theorem Rep.set (h : Rep w N n G) {i : Nat} (hi : i < n) {o : Nat} {v : Value} {d : Nd} (hd : (cellsOf N (G i)).setIfInBounds o v = cellsOf N d) :
    Rep (w.setCell ⟨N i, o, none⟩ v) N n (upd G i d) := by
  refine ⟨fun j hj => ?_, h.inj⟩
  by_cases e : j = i
  · subst e
    have hb := h.blk j hj
    simp [World.setCell, Array.getElem?_modify, hb, hd, upd_same]
  · rw [upd_other _ _ e, Below.heap_setCell _ _ _ _ (fun x => e (h.inj j i hj hi x))]
    exact h.blk j hj

theorem Rep.kept_set (_h : Rep w N n G) {i : Nat} (hi : i < n) (o : Nat) (v : Value) : Kept (InN N n) w (w.setCell ⟨N i, o, none⟩ v) :=
  (Kept.refl _ _).setCell (Or.inl ⟨i, hi, rfl⟩) v
end

#print axioms Rep.set
end Go.Proofs.Ytlggpodblabmdaa
