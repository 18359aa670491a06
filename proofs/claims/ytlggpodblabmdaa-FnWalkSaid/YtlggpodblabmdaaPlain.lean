/-
  Lists, trees and doubly linked nodes, in plain words: what a change does to a tree, and that goldmark's methods do the same to the nodes; a lemma text, no statement of the seat.
-/
import Derived.Test.YtlggpodblabmdaaOpsC
namespace Go.Proofs.Ytlggpodblabmdaa
open Go.RowKit

def s_first (G : Nat → Nd) (i : Nat) (v : Option Nat) : Nat → Nd := upd G i { G i with first := v }
def s_last (G : Nat → Nd) (i : Nat) (v : Option Nat) : Nat → Nd := upd G i { G i with last := v }
def s_parent (G : Nat → Nd) (i : Nat) (v : Option Nat) : Nat → Nd := upd G i { G i with parent := v }
def s_next (G : Nat → Nd) (i : Nat) (v : Option Nat) : Nat → Nd := upd G i { G i with next := v }
def s_prev (G : Nat → Nd) (i : Nat) (v : Option Nat) : Nat → Nd := upd G i { G i with prev := v }
def s_count (G : Nat → Nd) (i : Nat) (v : Int) : Nat → Nd := upd G i { G i with count := v }
section
variable (G : Nat → Nd) (i k : Nat)
@[simp] theorem s_first_first (v : Option Nat) : (s_first G i v k).first = if k = i then v else (G k).first := by unfold s_first upd; split <;> rfl
@[simp] theorem s_first_last (v : Option Nat) : (s_first G i v k).last = (G k).last := by unfold s_first upd; split <;> simp_all
@[simp] theorem s_first_parent (v : Option Nat) : (s_first G i v k).parent = (G k).parent := by unfold s_first upd; split <;> simp_all
@[simp] theorem s_first_next (v : Option Nat) : (s_first G i v k).next = (G k).next := by unfold s_first upd; split <;> simp_all
@[simp] theorem s_first_prev (v : Option Nat) : (s_first G i v k).prev = (G k).prev := by unfold s_first upd; split <;> simp_all
@[simp] theorem s_first_count (v : Option Nat) : (s_first G i v k).count = (G k).count := by unfold s_first upd; split <;> simp_all
@[simp] theorem s_last_first (v : Option Nat) : (s_last G i v k).first = (G k).first := by unfold s_last upd; split <;> simp_all
@[simp] theorem s_last_last (v : Option Nat) : (s_last G i v k).last = if k = i then v else (G k).last := by unfold s_last upd; split <;> rfl
@[simp] theorem s_last_parent (v : Option Nat) : (s_last G i v k).parent = (G k).parent := by unfold s_last upd; split <;> simp_all
@[simp] theorem s_last_next (v : Option Nat) : (s_last G i v k).next = (G k).next := by unfold s_last upd; split <;> simp_all
@[simp] theorem s_last_prev (v : Option Nat) : (s_last G i v k).prev = (G k).prev := by unfold s_last upd; split <;> simp_all
@[simp] theorem s_last_count (v : Option Nat) : (s_last G i v k).count = (G k).count := by unfold s_last upd; split <;> simp_all
@[simp] theorem s_parent_first (v : Option Nat) : (s_parent G i v k).first = (G k).first := by unfold s_parent upd; split <;> simp_all
@[simp] theorem s_parent_last (v : Option Nat) : (s_parent G i v k).last = (G k).last := by unfold s_parent upd; split <;> simp_all
@[simp] theorem s_parent_parent (v : Option Nat) : (s_parent G i v k).parent = if k = i then v else (G k).parent := by unfold s_parent upd; split <;> rfl
@[simp] theorem s_parent_next (v : Option Nat) : (s_parent G i v k).next = (G k).next := by unfold s_parent upd; split <;> simp_all
@[simp] theorem s_parent_prev (v : Option Nat) : (s_parent G i v k).prev = (G k).prev := by unfold s_parent upd; split <;> simp_all
@[simp] theorem s_parent_count (v : Option Nat) : (s_parent G i v k).count = (G k).count := by unfold s_parent upd; split <;> simp_all
@[simp] theorem s_next_first (v : Option Nat) : (s_next G i v k).first = (G k).first := by unfold s_next upd; split <;> simp_all
@[simp] theorem s_next_last (v : Option Nat) : (s_next G i v k).last = (G k).last := by unfold s_next upd; split <;> simp_all
@[simp] theorem s_next_parent (v : Option Nat) : (s_next G i v k).parent = (G k).parent := by unfold s_next upd; split <;> simp_all
@[simp] theorem s_next_next (v : Option Nat) : (s_next G i v k).next = if k = i then v else (G k).next := by unfold s_next upd; split <;> rfl
@[simp] theorem s_next_prev (v : Option Nat) : (s_next G i v k).prev = (G k).prev := by unfold s_next upd; split <;> simp_all
@[simp] theorem s_next_count (v : Option Nat) : (s_next G i v k).count = (G k).count := by unfold s_next upd; split <;> simp_all
@[simp] theorem s_prev_first (v : Option Nat) : (s_prev G i v k).first = (G k).first := by unfold s_prev upd; split <;> simp_all
@[simp] theorem s_prev_last (v : Option Nat) : (s_prev G i v k).last = (G k).last := by unfold s_prev upd; split <;> simp_all
@[simp] theorem s_prev_parent (v : Option Nat) : (s_prev G i v k).parent = (G k).parent := by unfold s_prev upd; split <;> simp_all
@[simp] theorem s_prev_next (v : Option Nat) : (s_prev G i v k).next = (G k).next := by unfold s_prev upd; split <;> simp_all
@[simp] theorem s_prev_prev (v : Option Nat) : (s_prev G i v k).prev = if k = i then v else (G k).prev := by unfold s_prev upd; split <;> rfl
@[simp] theorem s_prev_count (v : Option Nat) : (s_prev G i v k).count = (G k).count := by unfold s_prev upd; split <;> simp_all
@[simp] theorem s_count_first (v : Int) : (s_count G i v k).first = (G k).first := by unfold s_count upd; split <;> simp_all
@[simp] theorem s_count_last (v : Int) : (s_count G i v k).last = (G k).last := by unfold s_count upd; split <;> simp_all
@[simp] theorem s_count_parent (v : Int) : (s_count G i v k).parent = (G k).parent := by unfold s_count upd; split <;> simp_all
@[simp] theorem s_count_next (v : Int) : (s_count G i v k).next = (G k).next := by unfold s_count upd; split <;> simp_all
@[simp] theorem s_count_prev (v : Int) : (s_count G i v k).prev = (G k).prev := by unfold s_count upd; split <;> simp_all
@[simp] theorem s_count_count (v : Int) : (s_count G i v k).count = if k = i then v else (G k).count := by unfold s_count upd; split <;> rfl
end

theorem Nd.same {a b : Nd} (h1 : a.first = b.first) (h2 : a.last = b.last) (h3 : a.parent = b.parent) (h4 : a.next = b.next) (h5 : a.prev = b.prev) (h6 : a.count = b.count) : a = b := by
  cases a; cases b; simp_all

/-- What stands behind x. -/
def nxt : List Nat → Nat → Option Nat
  | [], _ => none
  | y :: l, x => if y = x then l.head? else nxt l x

/-- What stands before x. -/
def prv (l : List Nat) (x : Nat) : Option Nat := nxt l.reverse x

theorem nxt_not : ∀ (l : List Nat) (x : Nat), x ∉ l → nxt l x = none
  | [], _, _ => rfl
  | y :: l, x, h => by
    unfold nxt
    rw [if_neg (fun e => h (by rw [e]; exact .head _)), nxt_not l x (fun e => h (.tail _ e))]

theorem nxt_mid : ∀ (a b : List Nat) (x : Nat), x ∉ a → nxt (a ++ x :: b) x = b.head?
  | [], _, _, _ => by simp [nxt]
  | y :: a, b, x, h => by
    show nxt (y :: (a ++ x :: b)) x = _
    unfold nxt
    rw [if_neg (fun e => h (by rw [e]; exact .head _)), nxt_mid a b x (fun e => h (.tail _ e))]

/-- A list with x in its midst, and without it. -/
theorem nxt_ins : ∀ (a b : List Nat) (x k : Nat), (a ++ x :: b).Nodup → k ≠ x → nxt (a ++ x :: b) k = if a.getLast? = some k then some x else nxt (a ++ b) k
  | [], b, x, k, _, hk => by simp [nxt, Ne.symm hk]
  | [y], b, x, k, hn, hk => by
    by_cases e : y = k
    · subst e; simp [nxt]
    · simp [nxt, e, Ne.symm hk]
  | y :: z :: a, b, x, k, hn, hk => by
    have ih := nxt_ins (z :: a) b x k (List.nodup_cons.1 hn).2 hk
    by_cases e : y = k
    · subst e
      have hy : ¬ (z :: a).getLast? = some y := fun h => (List.nodup_cons.1 hn).1 (List.mem_append_left _ (List.mem_of_getLast? h))
      simp only [List.cons_append, nxt, if_true, List.head?_cons, List.getLast?_cons_cons, if_neg hy]
    · simp only [List.cons_append] at ih ⊢
      rw [nxt, if_neg e, ih, List.getLast?_cons_cons, show nxt (y :: z :: (a ++ b)) k = nxt (z :: (a ++ b)) k from by rw [nxt, if_neg e]]

theorem nxt_del : ∀ (a b : List Nat) (x k : Nat), (a ++ x :: b).Nodup → k ≠ x → nxt (a ++ b) k = if a.getLast? = some k then b.head? else nxt (a ++ x :: b) k
  | [], b, x, k, _, hk => by simp [nxt, Ne.symm hk]
  | [y], b, x, k, hn, hk => by
    by_cases e : y = k
    · subst e; simp [nxt]
    · simp [nxt, e, Ne.symm hk]
  | y :: z :: a, b, x, k, hn, hk => by
    have ih := nxt_del (z :: a) b x k (List.nodup_cons.1 hn).2 hk
    by_cases e : y = k
    · subst e
      have hy : ¬ (z :: a).getLast? = some y := fun h => (List.nodup_cons.1 hn).1 (List.mem_append_left _ (List.mem_of_getLast? h))
      simp only [List.cons_append, nxt, if_true, List.head?_cons, List.getLast?_cons_cons, if_neg hy]
    · simp only [List.cons_append] at ih ⊢
      rw [nxt, if_neg e, ih, List.getLast?_cons_cons, show nxt (y :: z :: (a ++ x :: b)) k = nxt (z :: (a ++ x :: b)) k from by rw [nxt, if_neg e]]

theorem rev_mid (a b : List Nat) (x : Nat) : (a ++ x :: b).reverse = b.reverse ++ x :: a.reverse := by simp
theorem prv_mid (a b : List Nat) (x : Nat) (h : x ∉ b) : prv (a ++ x :: b) x = a.getLast? := by
  unfold prv; rw [rev_mid, nxt_mid _ _ _ (by simpa using h), List.head?_reverse]
theorem prv_ins (a b : List Nat) (x k : Nat) (hn : (a ++ x :: b).Nodup) (hk : k ≠ x) : prv (a ++ x :: b) k = if b.head? = some k then some x else prv (a ++ b) k := by
  unfold prv; rw [rev_mid, nxt_ins _ _ _ _ (by rw [← rev_mid]; exact (List.reverse_perm _).nodup_iff.2 hn) hk, List.getLast?_reverse, List.reverse_append]
theorem prv_del (a b : List Nat) (x k : Nat) (hn : (a ++ x :: b).Nodup) (hk : k ≠ x) : prv (a ++ b) k = if b.head? = some k then a.getLast? else prv (a ++ x :: b) k := by
  unfold prv; rw [List.reverse_append, nxt_del _ _ x _ (by rw [← rev_mid]; exact (List.reverse_perm _).nodup_iff.2 hn) hk, List.getLast?_reverse, rev_mid, List.head?_reverse]

/-- A tree (or more): the parent of each node, and its children. -/
structure Gr where
  par : Nat → Option Nat
  kids : Nat → List Nat

def Gr.new : Gr := ⟨fun _ => none, fun _ => []⟩

/-- The node x is taken from p, among whose children it stands at i. -/
def Gr.drop (T : Gr) (p i : Nat) : Gr :=
  ⟨fun y => if (T.kids p)[i]? = some y then none else T.par y, fun q => if q = p then (T.kids p).take i ++ (T.kids p).drop (i + 1) else T.kids q⟩
def Gr.put (T : Gr) (p i x : Nat) : Gr :=
  ⟨fun y => if y = x then some p else T.par y, fun q => if q = p then (T.kids p).take i ++ x :: (T.kids p).drop i else T.kids q⟩
def Gr.clear (T : Gr) (p : Nat) : Gr :=
  ⟨fun y => if y ∈ T.kids p then none else T.par y, fun q => if q = p then [] else T.kids q⟩

/-- Where x is among the children of p. -/
def Gr.place (T : Gr) (p x : Nat) : Nat := (T.kids p).idxOf x

structure WF (n : Nat) (T : Gr) : Prop where
  nd : ∀ p, (T.kids p).Nodup
  mem : ∀ p x, x ∈ T.kids p ↔ T.par x = some p
  lt : ∀ p x, T.par x = some p → p < n ∧ x < n

/-- The nodes as goldmark links them. -/
def lk (T : Gr) (k : Nat) : Nd :=
  { first := (T.kids k).head?, last := (T.kids k).getLast?, parent := T.par k, next := (T.par k).bind fun p => nxt (T.kids p) k, prev := (T.par k).bind fun p => prv (T.kids p) k, count := (T.kids k).length }

section
variable (G : Nat → Nd) (i j v l k : Nat) (p x : Option Nat)
theorem rmv_00 : rmv G i j (none) (none) = s_next (s_prev (s_parent (s_last (s_first (s_count G i (wrap64 ((G i).count - 1))) i (none)) i (none)) j none) j none) j none := rfl
theorem rmv_01 (x : Nat) : rmv G i j (none) (some x) = s_next (s_prev (s_parent (s_prev (s_first (s_count G i (wrap64 ((G i).count - 1))) i (some x)) x (none)) j none) j none) j none := rfl
theorem rmv_10 (p : Nat) : rmv G i j (some p) (none) = s_next (s_prev (s_parent (s_last (s_next (s_count G i (wrap64 ((G i).count - 1))) p (none)) i (some p)) j none) j none) j none := rfl
theorem rmv_11 (p : Nat) (x : Nat) : rmv G i j (some p) (some x) = s_next (s_prev (s_parent (s_prev (s_next (s_count G i (wrap64 ((G i).count - 1))) p (some x)) x (some p)) j none) j none) j none := rfl
theorem rmv_first : (rmv G i j p x k).first = if p = none ∧ k = i then x else (G k).first := by
  cases p <;> cases x <;> simp [rmv_00, rmv_01, rmv_10, rmv_11]
theorem rmv_last : (rmv G i j p x k).last = if x = none ∧ k = i then p else (G k).last := by
  cases p <;> cases x <;> simp [rmv_00, rmv_01, rmv_10, rmv_11]
theorem rmv_parent : (rmv G i j p x k).parent = if k = j then none else (G k).parent := by
  cases p <;> cases x <;> simp [rmv_00, rmv_01, rmv_10, rmv_11]
theorem rmv_next : (rmv G i j p x k).next = if k = j then none else if p = some k then x else (G k).next := by
  cases p <;> cases x <;> simp [rmv_00, rmv_01, rmv_10, rmv_11, eq_comm]
theorem rmv_prev : (rmv G i j p x k).prev = if k = j then none else if x = some k then p else (G k).prev := by
  cases p <;> cases x <;> simp [rmv_00, rmv_01, rmv_10, rmv_11, eq_comm]
theorem rmv_count : (rmv G i j p x k).count = if k = i then wrap64 ((G i).count - 1) else (G k).count := by
  cases p <;> cases x <;> simp [rmv_00, rmv_01, rmv_10, rmv_11]
end

theorem idx_mid : ∀ (a b : List Nat) (x : Nat), x ∉ a → (a ++ x :: b).idxOf x = a.length
  | [], _, _, _ => by simp
  | y :: a, b, x, h => by
    have hy : ¬ y = x := fun e => h (by rw [e]; exact .head _)
    have ih := idx_mid a b x (fun e => h (.tail _ e))
    have hy' : (y == x) = false := by simpa using hy
    simp [List.idxOf_cons, hy', ih]

theorem WF.split {n : Nat} {T : Gr} (h : WF n T) {p x : Nat} (hx : T.par x = some p) :
    ∃ a b, T.kids p = a ++ x :: b ∧ x ∉ a ∧ x ∉ b ∧ (a ++ x :: b).Nodup ∧ T.place p x = a.length ∧ T.drop p (T.place p x) = ⟨fun y => if y = x then none else T.par y, fun q => if q = p then a ++ b else T.kids q⟩ := by
  obtain ⟨a, b, hab⟩ := List.append_of_mem ((h.mem p x).2 hx)
  have hn := h.nd p
  rw [hab] at hn
  have hn' := hn
  rw [List.nodup_append] at hn'
  obtain ⟨_, hb, hd⟩ := hn'
  have hxa : x ∉ a := fun hm => hd x hm x (.head _) rfl
  have hxb : x ∉ b := (List.nodup_cons.1 hb).1
  have hpl : T.place p x = a.length := by
    unfold Gr.place
    rw [hab, idx_mid a b x hxa]
  refine ⟨a, b, hab, hxa, hxb, hn, hpl, ?_⟩
  rw [hpl]
  unfold Gr.drop
  rw [hab]
  congr 1
  · funext y
    simp [eq_comm]
  · funext q
    have hd : (a ++ x :: b).drop (a.length + 1) = b := by
      rw [show a ++ x :: b = (a ++ [x]) ++ b by simp, List.drop_left' (by simp)]
    have ht : (a ++ x :: b).take a.length = a := by simp
    rw [hd, ht]

theorem remove_lk {n : Nat} {T : Gr} (h : WF n T) {p x : Nat} (hx : T.par x = some p) (hc : ((T.kids p).length : Int) ≤ 1000) :
    removeChild (lk T) p x = lk (T.drop p (T.place p x)) := by
  obtain ⟨a, b, hab, hxa, hxb, hn, hpl, hdr⟩ := h.split hx
  rw [hdr]
  unfold removeChild
  rw [if_pos (show (lk T x).parent = some p from hx)]
  have e1 : (lk T x).prev = a.getLast? := by simp [lk, hx, hab, prv_mid a b x hxb]
  have e2 : (lk T x).next = b.head? := by simp [lk, hx, hab, nxt_mid a b x hxa]
  have e3 : wrap64 (((a ++ x :: b).length : Int) - 1) = ((a ++ b).length : Int) := by
    rw [hab] at hc
    simp only [List.length_append, List.length_cons] at hc ⊢
    rw [IntWalk.wrap64_in _ (by omega)]
    omega
  rw [e1, e2]
  funext k
  apply Nd.same
  · rw [rmv_first]
    by_cases hk : k = p
    · subst hk; cases a <;> simp [lk, hab]
    · simp [lk, hk]
  · rw [rmv_last]
    by_cases hk : k = p
    · subst hk
      cases b with
      | nil => simp [lk]
      | cons y b => simp [lk, hab, List.getLast?_append, List.getLast?_cons]
    · simp [lk, hk]
  · rw [rmv_parent]; simp [lk]
  · rw [rmv_next]
    by_cases hk : k = x
    · subst hk; simp [lk]
    · simp only [hk, if_false, lk]
      by_cases hq : T.par k = some p
      · simp [hq, hab, nxt_del a b x k hn hk]
      · have : ¬ a.getLast? = some k := fun e => hq ((h.mem p k).1 (by rw [hab]; exact List.mem_append_left _ (List.mem_of_getLast? e)))
        rw [if_neg this]
        cases hz : T.par k with
        | none => rfl
        | some z => simp [show z ≠ p from fun e => hq (by rw [hz, e])]
  · rw [rmv_prev]
    by_cases hk : k = x
    · subst hk; simp [lk]
    · simp only [hk, if_false, lk]
      by_cases hq : T.par k = some p
      · simp [hq, hab, prv_del a b x k hn hk]
      · have : ¬ b.head? = some k := fun e => hq ((h.mem p k).1 (by rw [hab]; exact List.mem_append_right _ (.tail _ (List.mem_of_head? e))))
        rw [if_neg this]
        cases hz : T.par k with
        | none => rfl
        | some z => simp [show z ≠ p from fun e => hq (by rw [hz, e])]
  · rw [rmv_count]
    by_cases hk : k = p
    · subst hk; simp only [lk, hab, if_true, e3]
    · simp [lk, hk]

/-- The tree without x's own place in it. -/
def Gr.free (T : Gr) (x : Nat) : Gr := match T.par x with | some p => T.drop p (T.place p x) | none => T

theorem WF.len {n : Nat} {T : Gr} (h : WF n T) (p : Nat) : (T.kids p).length ≤ n := by
  have hs : (T.kids p) ⊆ List.range n := fun x hx => List.mem_range.2 (h.lt p x ((h.mem p x).1 hx)).2
  have := List.Nodup.length_le_of_subset (h.nd p) hs
  simpa using this

theorem WF.drop {n : Nat} {T : Gr} (h : WF n T) {p x : Nat} (hx : T.par x = some p) : WF n (T.drop p (T.place p x)) := by
  obtain ⟨a, b, hab, hxa, hxb, hn, hpl, hdr⟩ := h.split hx
  rw [hdr]
  refine ⟨fun q => ?_, fun q y => ?_, fun q y hy => ?_⟩
  · by_cases e : q = p
    · subst e
      simp only [if_true]
      exact (List.nodup_append.2 ⟨(List.nodup_append.1 hn).1, (List.nodup_cons.1 (List.nodup_append.1 hn).2.1).2, fun u hu v hv => (List.nodup_append.1 hn).2.2 u hu v (.tail _ hv)⟩)
    · simp only [e, if_false]; exact h.nd q
  · by_cases e : q = p
    · subst e
      simp only [if_true]
      by_cases ey : y = x
      · subst ey; simp [hxa, hxb]
      · rw [if_neg ey, ← h.mem, hab]; simp [ey]
    · simp only [e, if_false]
      rw [h.mem]
      by_cases ey : y = x
      · subst ey; simp [hx, Ne.symm e]
      · rw [if_neg ey]
  · by_cases ey : y = x
    · simp [ey] at hy
    · simp only [ey, if_false] at hy; exact h.lt q y hy

theorem WF.free {n : Nat} {T : Gr} (h : WF n T) (x : Nat) : WF n (T.free x) := by
  unfold Gr.free
  cases hx : T.par x with
  | none => exact h
  | some p => exact h.drop hx

theorem free_par {n : Nat} {T : Gr} (h : WF n T) (x y : Nat) : (T.free x).par y = if y = x then none else T.par y := by
  unfold Gr.free
  cases hx : T.par x with
  | none =>
    by_cases e : y = x
    · subst e; simp [hx]
    · simp [e]
  | some p =>
    obtain ⟨a, b, hab, hxa, hxb, hn, hpl, hdr⟩ := h.split hx
    simp only [hdr]

theorem isolate_lk {n : Nat} {T : Gr} (h : WF n T) (hn : n ≤ 1000) (x : Nat) : isolate (lk T) x = lk (T.free x) := by
  unfold isolate Gr.free
  cases hx : T.par x with
  | none => simp [lk, hx]
  | some p =>
    simp only [show (lk T x).parent = some p from hx]
    exact remove_lk h hx (by have := h.len p; omega)

theorem WF.put {n : Nat} {T : Gr} (h : WF n T) {p x i : Nat} (hx : T.par x = none) (hp : p < n) (hxn : x < n) : WF n (T.put p i x) := by
  have hxm : x ∉ T.kids p := fun e => by rw [(h.mem p x).1 e] at hx; cases hx
  have hp' : (T.kids p).take i ++ x :: (T.kids p).drop i = (T.kids p).take i ++ x :: (T.kids p).drop i := rfl
  have hperm : ((T.kids p).take i ++ x :: (T.kids p).drop i).Perm (x :: T.kids p) := by
    refine List.perm_middle.trans ?_
    rw [List.take_append_drop]
  unfold Gr.put
  refine ⟨fun q => ?_, fun q y => ?_, fun q y hy => ?_⟩
  · by_cases e : q = p
    · subst e
      simp only [if_true]
      exact hperm.nodup_iff.2 (List.nodup_cons.2 ⟨hxm, h.nd q⟩)
    · simp only [e, if_false]; exact h.nd q
  · by_cases e : q = p
    · subst e
      simp only [if_true]
      rw [hperm.mem_iff, List.mem_cons, h.mem]
      by_cases ey : y = x
      · simp [ey]
      · simp [ey]
    · simp only [e, if_false]
      rw [h.mem]
      by_cases ey : y = x
      · subst ey; simp [hx, Ne.symm e]
      · rw [if_neg ey]
  · by_cases ey : y = x
    · simp only [ey, if_true, Option.some.injEq] at hy; subst hy; exact ⟨hp, by rw [ey]; exact hxn⟩
    · simp only [ey, if_false] at hy; exact h.lt q y hy

theorem WF.clear {n : Nat} {T : Gr} (h : WF n T) (p : Nat) : WF n (T.clear p) := by
  unfold Gr.clear
  refine ⟨fun q => ?_, fun q y => ?_, fun q y hy => ?_⟩
  · by_cases e : q = p
    · simp [e]
    · simp only [e, if_false]; exact h.nd q
  · by_cases e : q = p
    · subst e
      by_cases ey : y ∈ T.kids q
      · simp [ey]
      · simp only [if_true, ey, if_false]
        rw [← h.mem]
        simp [ey]
    · simp only [e, if_false]
      rw [h.mem]
      by_cases ey : y ∈ T.kids p
      · rw [if_pos ey, (h.mem p y).1 ey]; simp [Ne.symm e]
      · rw [if_neg ey]
  · by_cases ey : y ∈ T.kids p
    · simp [ey] at hy
    · simp only [ey, if_false] at hy; exact h.lt q y hy
end Go.Proofs.Ytlggpodblabmdaa
