/-
  Which function each method of a node is; how two nodes are held against each other; a lemma text, no statement of the seat.
-/
import Derived.Test.YtlggpodblabmdaaGet
import Derived.LaidEqlPtr
import Derived.BigCall
namespace Go.Proofs.Ytlggpodblabmdaa
open Go.RowKit

/-- A method called through an interface value: 'callMethod' by a name that the walk does not open. -/
def callNode (recv : Value) (name : String) (args : Array Value) : Sem Next := callMethod recv name args

section
variable (ρ : Operand → Value) (dst : Option Tmp) (recv a b c : Operand) (name : String) (ats : Array TypeId) (ty : TypeId) (pos : String) (after : Array Edge) (guard : Option (Nat × Bool))
@[go_sem ↓] theorem execOp_invoke0 : execOp ρ { dst, op := .call { callee := .invoke recv name, args := #[], argTypes := ats }, type := ty, pos, after, guard } = callNode (ρ recv) name #[] := by simp [execOp, resolve, invoke, callNode]
@[go_sem ↓] theorem execOp_invoke1 : execOp ρ { dst, op := .call { callee := .invoke recv name, args := #[a], argTypes := ats }, type := ty, pos, after, guard } = callNode (ρ recv) name #[ρ a] := by simp [execOp, resolve, invoke, callNode]
@[go_sem ↓] theorem execOp_invoke2 : execOp ρ { dst, op := .call { callee := .invoke recv name, args := #[a, b], argTypes := ats }, type := ty, pos, after, guard } = callNode (ρ recv) name #[ρ a, ρ b] := by simp [execOp, resolve, invoke, callNode]
@[go_sem ↓] theorem execOp_invoke3 : execOp ρ { dst, op := .call { callee := .invoke recv name, args := #[a, b, c], argTypes := ats }, type := ty, pos, after, guard } = callNode (ρ recv) name #[ρ a, ρ b, ρ c] := by simp [execOp, resolve, invoke, callNode]
end

@[go_sem] theorem callNode_Parent (a : Addr) (w : World) : (callNode (.iface 77 (.pointer (some a))) "Parent" #[]).run Try.prog w = .ok (.enter 68 #[.pointer (some a)]) w := by kernel_rfl
@[go_sem] theorem callNode_FirstChild (a : Addr) (w : World) : (callNode (.iface 77 (.pointer (some a))) "FirstChild" #[]).run Try.prog w = .ok (.enter 57 #[.pointer (some a)]) w := by kernel_rfl
@[go_sem] theorem callNode_LastChild (a : Addr) (w : World) : (callNode (.iface 77 (.pointer (some a))) "LastChild" #[]).run Try.prog w = .ok (.enter 64 #[.pointer (some a)]) w := by kernel_rfl
@[go_sem] theorem callNode_NextSibling (a : Addr) (w : World) : (callNode (.iface 77 (.pointer (some a))) "NextSibling" #[]).run Try.prog w = .ok (.enter 66 #[.pointer (some a)]) w := by kernel_rfl
@[go_sem] theorem callNode_PreviousSibling (a : Addr) (w : World) : (callNode (.iface 77 (.pointer (some a))) "PreviousSibling" #[]).run Try.prog w = .ok (.enter 70 #[.pointer (some a)]) w := by kernel_rfl
@[go_sem] theorem callNode_ChildCount (a : Addr) (w : World) : (callNode (.iface 77 (.pointer (some a))) "ChildCount" #[]).run Try.prog w = .ok (.enter 55 #[.pointer (some a)]) w := by kernel_rfl
@[go_sem] theorem callNode_HasChildren (a : Addr) (w : World) : (callNode (.iface 77 (.pointer (some a))) "HasChildren" #[]).run Try.prog w = .ok (.enter 59 #[.pointer (some a)]) w := by kernel_rfl
@[go_sem] theorem callNode_SetNextSibling (a : Addr) (x : Value) (w : World) : (callNode (.iface 77 (.pointer (some a))) "SetNextSibling" #[x]).run Try.prog w = .ok (.enter 79 #[.pointer (some a), x]) w := by kernel_rfl
@[go_sem] theorem callNode_SetParent (a : Addr) (x : Value) (w : World) : (callNode (.iface 77 (.pointer (some a))) "SetParent" #[x]).run Try.prog w = .ok (.enter 80 #[.pointer (some a), x]) w := by kernel_rfl
@[go_sem] theorem callNode_SetPreviousSibling (a : Addr) (x : Value) (w : World) : (callNode (.iface 77 (.pointer (some a))) "SetPreviousSibling" #[x]).run Try.prog w = .ok (.enter 82 #[.pointer (some a), x]) w := by kernel_rfl
@[go_sem] theorem callNode_AppendChild (a : Addr) (x y : Value) (w : World) : (callNode (.iface 77 (.pointer (some a))) "AppendChild" #[x, y]).run Try.prog w = .ok (.enter 51 #[.pointer (some a), x, y]) w := by kernel_rfl
@[go_sem] theorem callNode_RemoveChild (a : Addr) (x y : Value) (w : World) : (callNode (.iface 77 (.pointer (some a))) "RemoveChild" #[x, y]).run Try.prog w = .ok (.enter 72 #[.pointer (some a), x, y]) w := by kernel_rfl
@[go_sem] theorem callNode_RemoveChildren (a : Addr) (x : Value) (w : World) : (callNode (.iface 77 (.pointer (some a))) "RemoveChildren" #[x]).run Try.prog w = .ok (.enter 73 #[.pointer (some a), x]) w := by kernel_rfl
@[go_sem] theorem callNode_ReplaceChild (a : Addr) (x y z : Value) (w : World) : (callNode (.iface 77 (.pointer (some a))) "ReplaceChild" #[x, y, z]).run Try.prog w = .ok (.enter 74 #[.pointer (some a), x, y, z]) w := by kernel_rfl
@[go_sem] theorem callNode_InsertBefore (a : Addr) (x y z : Value) (w : World) : (callNode (.iface 77 (.pointer (some a))) "InsertBefore" #[x, y, z]).run Try.prog w = .ok (.enter 61 #[.pointer (some a), x, y, z]) w := by kernel_rfl
@[go_sem] theorem callNode_InsertAfter (a : Addr) (x y z : Value) (w : World) : (callNode (.iface 77 (.pointer (some a))) "InsertAfter" #[x, y, z]).run Try.prog w = .ok (.enter 60 #[.pointer (some a), x, y, z]) w := by kernel_rfl
@[go_sem] theorem callNode_SortChildren (a : Addr) (x : Value) (w : World) : (callNode (.iface 77 (.pointer (some a))) "SortChildren" #[x]).run Try.prog w = .ok (.enter 83 #[.pointer (some a), x]) w := by kernel_rfl

section
variable {w : World} {N : Nat → Nat} {n : Nat} {G : Nat → Nd}

theorem equal_nodes (h : Rep w N n G) {i j : Nat} (hi : i < n) (hj : j < n) :
    (Op.equal 60 (.iface 77 (.pointer (some ⟨N i, 0, none⟩))) (.iface 77 (.pointer (some ⟨N j, 0, none⟩)))).run Try.prog w = .ok (decide (i = j)) w := by
  obtain ⟨i0, hi0, hz0⟩ : ∃ i0, Try.prog.info? 77 = some i0 ∧ i0.comparable = true := Option.map_eq_some_iff.1 (by kernel_rfl : (Try.prog.info? 77).map (·.comparable) = some true)
  obtain ⟨j0, hj0, hz1⟩ : ∃ j0, Try.prog.info? 99 = some j0 ∧ j0.size = 11 := Option.map_eq_some_iff.1 (by kernel_rfl : (Try.prog.info? 99).map (·.size) = some 11)
  by_cases e : i = j
  · subst e
    simp [Op.equal, Op.maxDepth, run_equalIn_iface_ptr_same w 9998 _ Try.underlying60 Try.underlying77 hi0 hz0 hj0]
  · have hne : (⟨N i, 0, none⟩ : Addr) ≠ ⟨N j, 0, none⟩ := fun x => e (h.inj i j hi hj (by simpa using x))
    simp [Op.equal, Op.maxDepth, run_equalIn_iface_ptr_other w 9998 Try.underlying60 Try.underlying77 hi0 hz0 hj0 (by omega) hne (h.blk i hi) (h.blk j hj), e]

theorem eql_nodes (h : Rep w N n G) {i j : Nat} (hi : i < n) (hj : j < n) {b : Bool} (hb : decide (i = j) = b) :
    (binOp .eql 60 (.iface 77 (.pointer (some ⟨N i, 0, none⟩))) (.iface 77 (.pointer (some ⟨N j, 0, none⟩)))).run Try.prog w = .ok (.bool b) w := by
  subst hb
  simp only [binOp]
  simp [equal_nodes h hi hj]

theorem neq_nodes (h : Rep w N n G) {i j : Nat} (hi : i < n) (hj : j < n) {b : Bool} (hb : decide (i = j) = !b) :
    (binOp .neq 60 (.iface 77 (.pointer (some ⟨N i, 0, none⟩))) (.iface 77 (.pointer (some ⟨N j, 0, none⟩)))).run Try.prog w = .ok (.bool b) w := by
  obtain rfl : b = !decide (i = j) := by rw [hb]; simp
  simp only [binOp]
  simp [equal_nodes h hi hj]

end

section
variable (t : TypeId) (v : Value) (w : World)
@[go_sem ↓] theorem eql_nil_r : (binOp .eql 60 (.iface t v) .nilIface).run Try.prog w = .ok (.bool false) w := by kernel_rfl
@[go_sem ↓] theorem neq_nil_r : (binOp .neq 60 (.iface t v) .nilIface).run Try.prog w = .ok (.bool true) w := by kernel_rfl
@[go_sem ↓] theorem eql_nil_l : (binOp .eql 60 .nilIface (.iface t v)).run Try.prog w = .ok (.bool false) w := by kernel_rfl
@[go_sem ↓] theorem neq_nil_l : (binOp .neq 60 .nilIface (.iface t v)).run Try.prog w = .ok (.bool true) w := by kernel_rfl
@[go_sem ↓] theorem eql_nil_nil : (binOp .eql 60 .nilIface .nilIface).run Try.prog w = .ok (.bool true) w := by kernel_rfl
@[go_sem ↓] theorem neq_nil_nil : (binOp .neq 60 .nilIface .nilIface).run Try.prog w = .ok (.bool false) w := by kernel_rfl
end
end Go.Proofs.Ytlggpodblabmdaa
