/-
  The comparator that impl.Sorted hands over, by a contract; a lemma text, no statement of the seat.
-/
import Derived.Test.YtlggpodblabmdaaSortP
import Derived.Test.YtlggpodblabmdaaLinks
import Derived.BigQuiet
import Derived.Deep.QuietTactic
namespace Go.Proofs.Ytlggpodblabmdaa
open Go.RowKit

@[go_sem] theorem callValue_25 (x y p q : Value) (w : World) : (callValue (.func (.func 25) #[] #[p, q]) #[x, y]).run Try.prog w = .ok (.enter 25 #[x, y, p, q]) w := by kernel_rfl

/-- What the comparator reads: the ranks behind the box b7, the nodes' numbers behind the box b10. -/
structure CmpSt (w : World) (N : Nat → Nat) (n b7 b10 r g cap : Nat) (rk : Nat → Nat) : Prop where
  box7 : w.cell? ⟨b7, 0, none⟩ = some (.slice (some ⟨g, 0, none⟩) n cap)
  row : ∀ i, i < n → w.cell? ⟨g, i, none⟩ = some (.int .i64 (rk i : Int))
  box10 : w.cell? ⟨b10, 0, none⟩ = some (.map (some r))
  map : MapIs w N r n
  small : ∀ i, i < n → rk i < 100
  apart : ¬ InN N n b7 ∧ ¬ InN N n b10 ∧ ¬ InN N n r ∧ ¬ InN N n g

section
variable {w w' : World} {N : Nat → Nat} {n : Nat} {G : Nat → Nd} {b7 b10 r g cap : Nat} {rk : Nat → Nat}

theorem CmpSt.kept (h : CmpSt w N n b7 b10 r g cap rk) (k : Kept (InN N n) w w') : CmpSt w' N n b7 b10 r g cap rk :=
  ⟨k.cell h.box7 h.apart.1, fun i hi => k.cell (h.row i hi) h.apart.2.2.2, k.cell h.box10 h.apart.2.1, by
    have hm := h.map
    unfold MapIs at hm ⊢
    rw [k.block _ (by rcases Nat.lt_or_ge r w.heap.size with h' | h'; exact h'; simp [Array.getElem?_eq_none h'] at hm) h.apart.2.2.1]
    exact hm, h.small, h.apart⟩

theorem Rep.drewN (h : Rep w N n G) (q : Nat) : Rep (w.drewN q) N n G := ⟨h.blk, h.inj⟩

set_option maxHeartbeats 400000 in
theorem compare_c (h : Rep w N n G) (hc : CmpSt w N n b7 b10 r g cap rk) {i j : Nat} (hi : i < n) (hj : j < n) :
    Calls Try.prog 25 #[.iface 77 (.pointer (some ⟨N i, 0, none⟩)), .iface 77 (.pointer (some ⟨N j, 0, none⟩)), .pointer (some ⟨b7, 0, none⟩), .pointer (some ⟨b10, 0, none⟩)] w
      fun e w' => e = .returned (.int .i64 ((rk i : Int) - (rk j : Int))) ∧ ∃ q, w' = w.drewN q := by
  have c7 := hc.box7
  have c10 := hc.box10
  have ci := hc.row i hi
  have cj := hc.row j hj
  have hri := hc.small i hi
  have hrj := hc.small j hj
  have hi0 : (0 : Int) ≤ (i : Int) := Int.natCast_nonneg _
  have hi1 : (i : Int) < (n : Int) := by omega
  have hj0 : (0 : Int) ≤ (j : Int) := Int.natCast_nonneg _
  have hj1 : (j : Int) < (n : Int) := by omega
  have l1 : ∀ q, (Instr.lookup 58 (.map (some r)) (.iface 77 (.pointer (some ⟨N i, 0, none⟩))) false).run Try.prog (w.drewN q) = .ok (.int .i64 i) (w.drewN q) := fun q => (map_look (h.drewN q) hi hc.map).1
  have l2 : ∀ q, (Instr.lookup 58 (.map (some r)) (.iface 77 (.pointer (some ⟨N j, 0, none⟩))) false).run Try.prog (w.drewN q) = .ok (.int .i64 j) (w.drewN q) := fun q => (map_look (h.drewN q) hj hc.map).1
  clear h hc
  go_enter Try.func25, Try.ntmps25
  go_wp2_with fail
  go_quiet (fail)
  go_wp2_with fail
  go_ret
  exact ⟨rfl, nq, rfl⟩

theorem compare_z (h : Rep w N n G) (hc : CmpSt w N n b7 b10 r g cap rk) {i j : Nat} (hi : i < n) (hj : j < n) {z : Int} (hz : (rk i : Int) - (rk j : Int) = z) :
    Calls Try.prog 25 #[.iface 77 (.pointer (some ⟨N i, 0, none⟩)), .iface 77 (.pointer (some ⟨N j, 0, none⟩)), .pointer (some ⟨b7, 0, none⟩), .pointer (some ⟨b10, 0, none⟩)] w
      fun e w' => e = .returned (.int .i64 z) ∧ ∃ q, w' = w.drewN q := by
  subst hz; exact compare_c h hc hi hj
end
end Go.Proofs.Ytlggpodblabmdaa
