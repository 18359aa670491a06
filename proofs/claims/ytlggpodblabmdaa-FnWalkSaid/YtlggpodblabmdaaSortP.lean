/-
  Insertion into a sorted chain of nodes, in plain words; a lemma text, no statement of the seat.
-/
import Derived.Test.YtlggpodblabmdaaPlainB
namespace Go.Proofs.Ytlggpodblabmdaa
open Go.RowKit

theorem Seg.head {n : Nat} {G : Nat → Nd} : ∀ {l : List Nat} {h : Option Nat}, Seg n G h l → h = l.head?
  | [], _, hs => hs
  | _ :: _, _, hs => hs.1

theorem Seg.mem_lt {n : Nat} {G : Nat → Nd} : ∀ {l : List Nat} {h : Option Nat}, Seg n G h l → ∀ y ∈ l, y < n
  | [], _, _, y, hy => by cases hy
  | x :: l, _, hs, y, hy => by
    rcases List.mem_cons.1 hy with rfl | hy
    · exact hs.2.1
    · exact hs.2.2.mem_lt y hy

theorem Seg.congr {n : Nat} {G G' : Nat → Nd} : ∀ {l : List Nat} {h : Option Nat}, Seg n G h l → (∀ y ∈ l, (G' y).next = (G y).next) → Seg n G' h l
  | [], _, hs, _ => hs
  | x :: l, _, hs, he => ⟨hs.1, hs.2.1, by rw [he x (.head _)]; exact hs.2.2.congr fun y hy => he y (.tail _ hy)⟩

theorem seg_front {n : Nat} {G G' : Nat → Nd} {ss : List Nat} {x : Nat} {h : Option Nat} (hs : Seg n G h ss) (hx : x < n) (hxn : (G' x).next = h) (he : ∀ y ∈ ss, (G' y).next = (G y).next) : Seg n G' (some x) (x :: ss) :=
  ⟨rfl, hx, by rw [hxn]; exact hs.congr he⟩

theorem seg_ins {n : Nat} {G G' : Nat → Nd} {c x : Nat} {b : List Nat} (hx : x < n) (hc : (G' c).next = some x) (hxn : (G' x).next = (G c).next) : ∀ {a : List Nat} {h : Option Nat}, Seg n G h (a ++ c :: b) → (∀ y ∈ a ++ b, (G' y).next = (G y).next) → Seg n G' h (a ++ c :: x :: b)
  | [], _, hs, he => ⟨hs.1, hs.2.1, by rw [hc]; exact ⟨rfl, hx, by rw [hxn]; exact hs.2.2.congr he⟩⟩
  | y :: a, _, hs, he => ⟨hs.1, hs.2.1, by
      rw [he y (.head _)]
      exact seg_ins hx hc hxn (a := a) hs.2.2 fun z hz => he z (.tail _ hz)⟩

theorem Seg.nextOf {n : Nat} {G : Nat → Nd} {c : Nat} {b : List Nat} : ∀ {a : List Nat} {h : Option Nat}, Seg n G h (a ++ c :: b) → (G c).next = b.head?
  | [], _, hs => hs.2.2.head
  | _ :: a, _, hs => Seg.nextOf (a := a) hs.2.2

/-- The ranks rise. -/
def SortedBy (r : Nat → Nat) (l : List Nat) : Prop := l.Pairwise fun a b => r a ≤ r b

theorem sorted_front {r : Nat → Nat} {ss : List Nat} {x : Nat} (hs : SortedBy r ss) (hx : ∀ s, ss.head? = some s → r x ≤ r s) : SortedBy r (x :: ss) := by
  unfold SortedBy at hs ⊢
  refine List.pairwise_cons.2 ⟨fun y hy => ?_, hs⟩
  cases ss with
  | nil => cases hy
  | cons s ss =>
    have h1 := hx s rfl
    rcases List.mem_cons.1 hy with rfl | hy
    · exact h1
    · exact Nat.le_trans h1 ((List.pairwise_cons.1 hs).1 y hy)

theorem sorted_ins {r : Nat → Nat} {c x : Nat} {b : List Nat} (hb : ∀ s, b.head? = some s → r x ≤ r s) : ∀ {a : List Nat}, SortedBy r (a ++ c :: b) → (∀ y ∈ a ++ [c], r y ≤ r x) → SortedBy r (a ++ c :: x :: b)
  | [], hs, ha => by
    have hc := List.pairwise_cons.1 hs
    refine List.pairwise_cons.2 ⟨fun y hy => ?_, sorted_front hc.2 hb⟩
    rcases List.mem_cons.1 hy with rfl | hy
    · exact ha c (by simp)
    · exact hc.1 y hy
  | z :: a, hs, ha => by
    have hc := List.pairwise_cons.1 hs
    refine List.pairwise_cons.2 ⟨fun y hy => ?_, sorted_ins hb (a := a) hc.2 fun y hy => ha y (.tail _ hy)⟩
    by_cases e : y = x
    · subst e; exact ha z (.head _)
    · refine hc.1 y (show y ∈ a ++ c :: b from ?_)
      have hy : y ∈ a ++ c :: x :: b := hy
      simp only [List.mem_append, List.mem_cons] at hy ⊢
      rcases hy with h | h | h | h
      · exact .inl h
      · exact .inr (.inl h)
      · exact absurd h e
      · exact .inr (.inr h)

theorem perm_front {ss rest ks : List Nat} {x : Nat} (h : (ss ++ x :: rest).Perm ks) : ((x :: ss) ++ rest).Perm ks := List.perm_middle.symm.trans h
theorem perm_ins {a b rest ks : List Nat} {c x : Nat} (h : ((a ++ c :: b) ++ x :: rest).Perm ks) : ((a ++ c :: x :: b) ++ rest).Perm ks := by
  refine List.Perm.trans ?_ h
  refine List.Perm.trans ?_ List.perm_middle.symm
  show ((a ++ c :: x :: b) ++ rest).Perm (x :: (a ++ c :: b) ++ rest)
  refine List.Perm.append_right rest ?_
  rw [show a ++ c :: x :: b = (a ++ [c]) ++ x :: b by simp, show a ++ c :: b = (a ++ [c]) ++ b by simp]
  exact List.perm_middle
end Go.Proofs.Ytlggpodblabmdaa
