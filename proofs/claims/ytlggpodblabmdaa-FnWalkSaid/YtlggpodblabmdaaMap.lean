/-
  A map from nodes to their numbers: a store, a look-up; a lemma text, no statement of the seat.
-/
import Derived.Test.YtlggpodblabmdaaNodes
import Derived.Maps.Own
namespace Go.Proofs.Ytlggpodblabmdaa
open Go.RowKit

/-- The entries of the first k nodes. -/
def ents (N : Nat → Nat) (k : Nat) : List MapEntry := (List.range k).map fun i => { key := nv N (some i), val := .int .i64 i, born := i }

section
variable {w : World} {N : Nat → Nat} {n : Nat} {G : Nat → Nd}

theorem find_asking (h : Rep w N n G) {i : Nat} (hi : i < n) : ∀ (m a : Nat), a + m ≤ n →
    (Instr.findAsking 60 (nv N (some i)) ((List.range' a m).map fun i => { key := nv N (some i), val := .int .i64 i, born := i }) a).run Try.prog w =
      .ok (if a ≤ i ∧ i < a + m then some (i, .int .i64 i) else none) w
  | 0, a, _ => by
    simp [Instr.findAsking]
  | m + 1, a, hm => by
    rw [List.range'_succ, List.map_cons, Instr.findAsking]
    have he : (Op.equal 60 (nv N (some i)) (nv N (some a))).run Try.prog w = .ok (decide (i = a)) w := equal_nodes h hi (by omega)
    simp only [Sem.run_bind, he, Result.andThen_ok]
    by_cases e : i = a
    · subst e
      simp
    · have e1 : decide (i = a) = false := by simpa using e
      rw [e1]
      simp only [Bool.false_eq_true, if_false]
      rw [find_asking h hi m (a + 1) (by omega)]
      by_cases e2 : a + 1 ≤ i ∧ i < a + 1 + m
      · rw [if_pos e2, if_pos (by omega)]
      · rw [if_neg e2, if_neg (by omega)]

theorem find_key (h : Rep w N n G) {i k : Nat} (hi : i < n) (hk : k ≤ n) :
    (Instr.findKey 60 (nv N (some i)) (ents N k)).run Try.prog w = .ok (if i < k then some (i, .int .i64 i) else none) w := by
  have hu : (underlying 60).run Try.prog w = .ok _ w := run_underlying Try.underlying60 w
  unfold Instr.findKey
  simp only [Sem.run_bind, hu, Result.andThen_ok]
  cases k with
  | zero => simp [ents, Instr.findNow]
  | succ k =>
    have hn : ∀ (ms : Array (String × TypeId)) (es : List MapEntry), Instr.findNow (.interface ms) (nv N (some i)) ({ key := nv N (some 0), val := .int .i64 ((0 : Nat) : Int), born := 0 } :: es) 0 = none := fun ms es => by
      simp [Instr.findNow, Instr.sameNow]
    have e : ents N (k + 1) = { key := nv N (some 0), val := .int .i64 ((0 : Nat) : Int), born := 0 } :: ((List.range' 1 k).map fun i => { key := nv N (some i), val := .int .i64 i, born := i }) := by
      simp [ents, List.range_eq_range', List.range'_succ]
    rw [e, hn, ← e]
    have := find_asking h hi (k + 1) 0 (by omega)
    rw [show (List.range' 0 (k + 1)).map (fun i => ({ key := nv N (some i), val := .int .i64 i, born := i } : MapEntry)) = ents N (k + 1) from by rw [ents, List.range_eq_range']] at this
    simpa using this

theorem check_key (e : Bool) (i : Nat) : (Instr.checkKey e 10000 60 (nv N (some i))).run Try.prog w = .ok () w := by
  rw [nv_some]; kernel_rfl

/-- The map's block: the numbers of the first k nodes. -/
def MapIs (w : World) (N : Nat → Nat) (r k : Nat) : Prop := w.heap[r]? = some (.map (ents N k).toArray k)

theorem map_store (h : Rep w N n G) {r k : Nat} (hk : k < n) (hm : MapIs w N r k) :
    ∃ w', (Instr.mapUpdate 58 (.map (some r)) (.iface 77 (.pointer (some ⟨N k, 0, none⟩))) (.int .i64 k)).run Try.prog w = .ok () w' ∧ MapIs w' N r (k + 1) ∧ Kept (fun b => b = r) w w' := by
  have hr : r < w.heap.size := by
    rcases Nat.lt_or_ge r w.heap.size with h' | h'
    · exact h'
    · unfold MapIs at hm; simp [Array.getElem?_eq_none h'] at hm
  refine ⟨{ w with heap := w.heap.setIfInBounds r (.map (ents N (k + 1)).toArray (k + 1)) }, ?_, ?_, ?_⟩
  · rw [← nv_some]
    have hf := find_key h hk (Nat.le_of_lt hk) (k := k)
    rw [if_neg (by omega)] at hf
    have hp : (ents N k).toArray.push { key := nv N (some k), val := .int .i64 k, born := k } = (ents N (k + 1)).toArray := by
      simp [ents, List.range_succ]
    simp [Instr.mapUpdate, run_underlying Try.underlying58, MapKept.run_getObj_map hm, check_key, hf, MapKept.run_setObj_map _ hm, Result.andThen, hp]
  · simp [MapIs, hr]
  · refine ⟨rfl, rfl, rfl, by simp, fun b hb hne => ?_⟩
    simp only [Array.getElem?_setIfInBounds]
    rw [if_neg (fun e => hne e.symm)]

theorem map_look (h : Rep w N n G) {r i : Nat} (hi : i < n) (hm : MapIs w N r n) :
    (Instr.lookup 58 (.map (some r)) (.iface 77 (.pointer (some ⟨N i, 0, none⟩))) false).run Try.prog w = .ok (.int .i64 i) w ∧
    (Instr.lookup 58 (.map (some r)) (.iface 77 (.pointer (some ⟨N i, 0, none⟩))) true).run Try.prog w = .ok (.tuple #[.int .i64 i, .bool true]) w := by
  rw [← nv_some]
  have hf := find_key h hi (Nat.le_refl n)
  rw [if_pos hi] at hf
  constructor
  · simp [Instr.lookup, run_underlying Try.underlying58, MapKept.run_getObj_map hm, check_key, hf, Result.andThen]
  · simp [Instr.lookup, run_underlying Try.underlying58, MapKept.run_getObj_map hm, check_key, hf, Result.andThen]
end
end Go.Proofs.Ytlggpodblabmdaa
