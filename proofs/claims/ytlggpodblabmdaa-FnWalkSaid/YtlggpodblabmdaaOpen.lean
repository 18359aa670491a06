/-
  Arguments that come in: rows of changes and rows of numbers, opened to their cells; a lemma text, no statement of the seat.
-/
import Derived.Test.YtlggpodblabmdaaRun
import Derived.ProofKit
import Derived.OpenShut
import Derived.Carry
import Derived.Deep.Slices
import Derived.Deep.Fields
import Derived.ChangeSame
import Derived.ChangeSlices
namespace Go.Proofs.Ytlggpodblabmdaa
open Go.ChangeShapes Go.WideShapes Go.ChangeAt Go.RowKit Go.Deep

theorem Try.laidOut : laidOutB Try.prog = true := by kernel_rfl
theorem Try.cells28 : Try.prog.cellsOf 28 = 4 := by kernel_rfl
theorem Try.cells3 : Try.prog.cellsOf 3 = 1 := by kernel_rfl
theorem Try.own : ownKnob Try.prog.godebug = none := by kernel_rfl

/-- A row of changes came in: so many, four numbers each. -/
def Came (W : World) (ao : Option Addr) (len : Nat) : Prop :=
  0 < len → ∃ b off, ao = some ⟨b, off, none⟩ ∧ b < W.heap.size ∧ ∀ j, j < len → ∃ z0 z1 z2 z3 : Int, W.cell? ⟨b, off + j * 4, none⟩ = some (.int .i64 z0) ∧ W.cell? ⟨b, off + j * 4 + 1, none⟩ = some (.int .i64 z1) ∧
    W.cell? ⟨b, off + j * 4 + 2, none⟩ = some (.int .i64 z2) ∧ W.cell? ⟨b, off + j * 4 + 3, none⟩ = some (.int .i64 z3)

/-- A row of numbers came in. -/
def CameInts (W : World) (ao : Option Addr) (zs : List Int) : Prop :=
  0 < zs.length → ∃ b off, ao = some ⟨b, off, none⟩ ∧ b < W.heap.size ∧ ∀ j, j < zs.length → W.cell? ⟨b, off + j, none⟩ = some (.int .i64 (zs.getD j 0))

section
variable {H : Type} {enc : TypeId × Value → H} {W : World}

theorem came_ints {a : Option Addr} {len cap : Nat} {d : DataW H} {p : List MemPlace} (h : DataW.Trod enc Try.prog W 0 (fun _ => true) true 38 (.slice a len cap) d p) : ∃ zs : List Int, zs.length = len ∧ CameInts W a zs := by
  obtain ⟨fuel, hf⟩ := h
  rcases open_ints Try.underlying38 Try.underlying3 Try.cells3 hf with ⟨hcs, hx⟩ | ⟨a, len', cap', zs, hcs, _, hl, hm, hz, hx, hcell, hwz⟩
  · simp [Value.cells] at hcs
    obtain ⟨rfl, rfl, rfl⟩ := hcs
    exact ⟨[], rfl, fun h => absurd h (by simp)⟩
  · simp [Value.cells] at hcs
    obtain ⟨rfl, rfl, rfl⟩ := hcs
    simp only [if_true] at hz
    refine ⟨zs.take len, by simp; omega, fun h0 => ?_⟩
    have h0' : 0 < len := by simp at h0; omega
    obtain ⟨b, off, spot⟩ := a
    have hspot : spot = none := by simpa [Addr.add] using World.cell?_spot (hcell 0 (by omega))
    subst hspot
    have hc0 := hcell 0 (by omega)
    refine ⟨b, off, rfl, World.block_lt_of_cell? W ((⟨b, off, none⟩ : Addr).add 0) hc0, fun j hj => ?_⟩
    have hj' : j < len := by simp at hj; omega
    rw [← add_plain, hcell j (by omega)]
    simp [List.getD, hj']

set_option maxRecDepth 100000 in
theorem came_changes {a : Option Addr} {len cap : Nat} {d : DataW H} {p : List MemPlace} (h : DataW.Trod enc Try.prog W 0 (fun _ => true) true 35 (.slice a len cap) d p) : Came W a len := by
  obtain ⟨fuel, hf⟩ := h
  rcases open_slice Try.underlying35 hf with ⟨hcs, hx⟩ | ⟨a, len', cap', m, n, D, Pl, hcs, hb, hl, hm, hmm, hx, hi⟩
  · simp [Value.cells] at hcs
    obtain ⟨rfl, rfl, rfl⟩ := hcs
    exact fun h => absurd h (by omega)
  · simp [Value.cells] at hcs
    obtain ⟨rfl, rfl, rfl⟩ := hcs
    simp only [if_true] at hmm
    have hint : ∀ (n : Nat) (v : Value) (y : DataW H × List MemPlace), DataW.trod enc Try.prog W 0 (fun _ => true) true n 3 [v] = some y → ∃ z, v = .int .i64 z := fun n v y h => by
      cases n with
      | zero => simp [DataW.trod] at h
      | succ n =>
        obtain ⟨z, hz, -⟩ := DataW.trod_int Try.underlying3 h
        simp at hz
        exact ⟨z, hz⟩
    intro h0
    have hget : ∀ j, j < len → ∀ f, f < 4 → ∃ z, W.cell? (a.add (j * 4 + f)) = some (.int .i64 z) := fun j hj f hf => by
      obtain ⟨cs', hc, ht'⟩ := hi j (by omega)
      rw [Try.cells28] at hc
      obtain ⟨_, hcl, hat⟩ := World.cells?_some hc
      obtain ⟨ys, n', hn', hy, hlen, hyl, hf'⟩ := DataW.trod_struct Try.underlying28 ht'
      have hys : ys.length = 4 := hyl
      have hat' : W.cell? (a.add (j * 4 + f)) = cs'[f]? := by
        rw [← Go.Deep.add_add]; exact hat f hf
      rw [hat']
      have hone : ∀ o, o < 4 → (cs'.drop o).take 1 = [cs'.getD o undef] := fun o ho => by
        have ho' : o < cs'.length := by omega
        rw [List.drop_eq_getElem_cons ho']
        show [cs'[o]] = _
        simp [List.getD, ho']
      have hget : cs'[f]? = some (cs'.getD f undef) := by
        simp [List.getD, List.getElem?_eq_getElem (show f < cs'.length by omega)]
      rw [hget]
      have hall : ∀ g, g < 4 → ∃ z, cs'.getD g undef = .int .i64 z := fun g hg => by
        refine hint n' _ (ys[g]'(by omega)) ?_
        rw [← hone g hg, ← List.getElem?_eq_getElem (show g < ys.length by omega)]
        have e3 := Try.cells3
        rcases (show g = 0 ∨ g = 1 ∨ g = 2 ∨ g = 3 by omega) with rfl | rfl | rfl | rfl
        · have hf0 : DataW.trod enc Try.prog W 0 (fun _ => true) true n' 3 ((cs'.drop 0).take (Try.prog.cellsOf 3)) = ys[0]? := hf' 0 _ rfl
          rw [e3] at hf0; exact hf0
        · have hf0 : DataW.trod enc Try.prog W 0 (fun _ => true) true n' 3 ((cs'.drop 1).take (Try.prog.cellsOf 3)) = ys[1]? := hf' 1 _ rfl
          rw [e3] at hf0; exact hf0
        · have hf0 : DataW.trod enc Try.prog W 0 (fun _ => true) true n' 3 ((cs'.drop 2).take (Try.prog.cellsOf 3)) = ys[2]? := hf' 2 _ rfl
          rw [e3] at hf0; exact hf0
        · have hf0 : DataW.trod enc Try.prog W 0 (fun _ => true) true n' 3 ((cs'.drop 3).take (Try.prog.cellsOf 3)) = ys[3]? := hf' 3 _ rfl
          rw [e3] at hf0; exact hf0
      obtain ⟨z, hz⟩ := hall f hf
      exact ⟨z, by rw [hz]⟩
    obtain ⟨b, off, spot⟩ := a
    obtain ⟨z00, hz00⟩ := hget 0 h0 0 (by omega)
    have hspot : spot = none := by simpa [Addr.add] using World.cell?_spot hz00
    subst hspot
    refine ⟨b, off, rfl, World.block_lt_of_cell? W _ hz00, fun j hj => ?_⟩
    obtain ⟨z0, h0⟩ := hget j hj 0 (by omega)
    obtain ⟨z1, h1⟩ := hget j hj 1 (by omega)
    obtain ⟨z2, h2⟩ := hget j hj 2 (by omega)
    obtain ⟨z3, h3⟩ := hget j hj 3 (by omega)
    rw [add_plain] at h0 h1 h2 h3
    exact ⟨z0, z1, z2, z3, h0, h1, h2, h3⟩
end
end Go.Proofs.Ytlggpodblabmdaa
