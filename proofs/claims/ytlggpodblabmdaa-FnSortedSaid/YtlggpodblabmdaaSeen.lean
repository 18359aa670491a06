/-
  A set of numbers as a map: a look-up of a number that is not in it, and a store; the ranks of FnSorted; a lemma text, no statement of the seat.
-/
import Derived.Test.YtlggpodblabmdaaMap
namespace Go.Proofs.Ytlggpodblabmdaa
open Go.RowKit

def seenEnts (xs : List Nat) : List MapEntry := xs.mapIdx fun (i : Nat) (x : Nat) => { key := .int .i64 (x : Int), val := .bool true, born := i }

/-- The map's block: the numbers xs, each true. -/
def SeenIs (w : World) (r : Nat) (xs : List Nat) : Prop := w.heap[r]? = some (.map (seenEnts xs).toArray xs.length)

theorem find_not {k : IntKind} {x : Nat} : ∀ (es : List MapEntry) (i : Nat), (∀ e ∈ es, ∃ y : Nat, e.key = .int .i64 (y : Int) ∧ y ≠ x) → Instr.findNow (.int k) (.int .i64 (x : Int)) es i = some none
  | [], _, _ => rfl
  | e :: es, i, h => by
    obtain ⟨y, hy, hne⟩ := h e (.head _)
    have h1 : ((x : Int) == (y : Int)) = false := beq_eq_false_iff_ne.2 (by omega)
    unfold Instr.findNow
    rw [hy]
    simp only [Instr.sameNow, if_true, h1]
    exact find_not es (i + 1) fun e he => h e (.tail _ he)

theorem seen_keys {xs : List Nat} {x : Nat} (hx : x ∉ xs) : ∀ e ∈ seenEnts xs, ∃ y : Nat, e.key = .int .i64 (y : Int) ∧ y ≠ x := fun e he => by
  unfold seenEnts at he
  obtain ⟨i, hi, rfl⟩ := List.mem_mapIdx.1 he
  exact ⟨xs[i], rfl, fun e => hx (by rw [← e]; exact List.getElem_mem hi)⟩

section
variable {w : World} {r x : Nat} {xs : List Nat}

theorem check3 (e : Bool) (z : Int) (w : World) : (Instr.checkKey e 10000 3 (.int .i64 z)).run Try.prog w = .ok () w := by kernel_rfl

theorem seen_find (hx : x ∉ xs) : (Instr.findKey 3 (.int .i64 (x : Int)) (seenEnts xs)).run Try.prog w = .ok none w := by
  unfold Instr.findKey
  have hu : (underlying 3).run Try.prog w = .ok _ w := run_underlying Try.underlying3 w
  simp only [Sem.run_bind, hu, Result.andThen_ok, find_not _ 0 (seen_keys hx)]
  rfl

theorem seen_look (hm : SeenIs w r xs) (hx : x ∉ xs) : (Instr.lookup 47 (.map (some r)) (.int .i64 (x : Int)) false).run Try.prog w = .ok (.bool false) w := by
  simp [Instr.lookup, run_underlying Try.underlying47, MapKept.run_getObj_map hm, check3, seen_find hx, Result.andThen]

theorem seen_store (hm : SeenIs w r xs) (hx : x ∉ xs) :
    ∃ w', (Instr.mapUpdate 47 (.map (some r)) (.int .i64 (x : Int)) (.bool true)).run Try.prog w = .ok () w' ∧ SeenIs w' r (xs ++ [x]) ∧ Kept (fun b => b = r) w w' := by
  have hr : r < w.heap.size := by
    rcases Nat.lt_or_ge r w.heap.size with h' | h'
    · exact h'
    · unfold SeenIs at hm; simp [Array.getElem?_eq_none h'] at hm
  have hp : (seenEnts xs).toArray.push { key := .int .i64 (x : Int), val := .bool true, born := xs.length } = (seenEnts (xs ++ [x])).toArray := by
    simp [seenEnts]
  refine ⟨{ w with heap := w.heap.setIfInBounds r (.map (seenEnts (xs ++ [x])).toArray (xs.length + 1)) }, ?_, ?_, ?_⟩
  · simp [Instr.mapUpdate, run_underlying Try.underlying47, MapKept.run_getObj_map hm, check3, seen_find hx, MapKept.run_setObj_map _ hm, Result.andThen, hp]
  · simp [SeenIs, hr]
  · refine ⟨rfl, rfl, rfl, by simp, fun b hb hne => ?_⟩
    simp only [Array.getElem?_setIfInBounds]
    rw [if_neg (fun e => hne e.symm)]
end

/-- The rank of node i. -/
def rkOf (zs : List Int) (i : Nat) : Nat := if zs = [] then 0 else ((zs.getD (i % zs.length) 0) % 100).toNat
theorem rkOf_lt (zs : List Int) (i : Nat) : rkOf zs i < 100 := by
  unfold rkOf
  split
  · omega
  · have := Int.emod_lt_of_pos (zs.getD (i % zs.length) 0) (b := 100) (by decide)
    omega
end Go.Proofs.Ytlggpodblabmdaa
