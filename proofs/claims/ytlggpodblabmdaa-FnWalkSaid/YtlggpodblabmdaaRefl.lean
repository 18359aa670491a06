/-
  What laws.linksOf lays, row by row, is what lk tells; a lemma text, no statement of the seat.
-/
import Derived.Test.YtlggpodblabmdaaDo
namespace Go.Proofs.Ytlggpodblabmdaa
open Go.RowKit

/-- One child more of k, the one at j. -/
def layAt (G : Nat → Nd) (ks : List Nat) (k j : Nat) : Nat → Nd :=
  match ks[j]? with
  | none => G
  | some x => match j with
    | 0 => s_parent G x (some k)
    | m + 1 => match ks[m]? with
      | none => s_parent G x (some k)
      | some p => s_next (s_prev (s_parent G x (some k)) x (some p)) p (some x)

/-- The first j children of k. -/
def layN (G : Nat → Nd) (ks : List Nat) (k : Nat) : Nat → (Nat → Nd)
  | 0 => G
  | j + 1 => layAt (layN G ks k j) ks k j

/-- What k itself is told. -/
def layHead (G : Nat → Nd) (ks : List Nat) (k : Nat) : Nat → Nd :=
  if ks = [] then G else s_count (s_last (s_first G k ks.head?) k ks.getLast?) k ks.length

/-- The first k rows. -/
def lays (T : Gr) : Nat → (Nat → Nd)
  | 0 => fun _ => Nd.new
  | k + 1 => layHead (layN (lays T k) (T.kids k) k (T.kids k).length) (T.kids k) k

theorem nxt_snoc (l : List Nat) (x i : Nat) (hn : (l ++ [x]).Nodup) (hi : i ≠ x) : nxt (l ++ [x]) i = if l.getLast? = some i then some x else nxt l i := by
  have := nxt_ins l [] x i hn hi
  simpa using this
theorem nxt_snoc_self (l : List Nat) (x : Nat) (hx : x ∉ l) : nxt (l ++ [x]) x = none := by
  rw [nxt_mid l [] x hx]; rfl
theorem prv_snoc (l : List Nat) (x i : Nat) (hn : (l ++ [x]).Nodup) (hi : i ≠ x) : prv (l ++ [x]) i = prv l i := by
  have := prv_ins l [] x i hn hi
  simpa using this
theorem prv_snoc_self (l : List Nat) (x : Nat) : prv (l ++ [x]) x = l.getLast? := prv_mid l [] x (by simp)

theorem layN_eq (G : Nat → Nd) (ks : List Nat) (k : Nat) (hn : ks.Nodup) (hG : ∀ x ∈ ks, (G x).next = none ∧ (G x).prev = none) :
    ∀ j, j ≤ ks.length → ∀ i, layN G ks k j i = if i ∈ ks.take j then { G i with parent := some k, next := nxt (ks.take j) i, prev := prv (ks.take j) i } else G i
  | 0, _, i => by simp [layN]
  | j + 1, hj, i => by
    have ih := layN_eq G ks k hn hG j (by omega)
    obtain ⟨x, hx⟩ : ∃ x, ks[j]? = some x := ⟨_, List.getElem?_eq_getElem (by omega)⟩
    have htake : ks.take (j + 1) = ks.take j ++ [x] := by rw [List.take_add_one, hx]; rfl
    have hnd : (ks.take j ++ [x]).Nodup := by rw [← htake]; exact hn.sublist (List.take_sublist _ _)
    have hxn : x ∉ ks.take j := fun e => by
      have := List.nodup_append.1 hnd
      exact this.2.2 x e x (by simp) rfl
    have hxm : x ∈ ks := List.mem_of_getElem? hx
    have hlast : (ks.take j).getLast? = if j = 0 then none else ks[j - 1]? := by
      rw [List.getLast?_take]
      split
      · rfl
      · rw [List.getElem?_eq_getElem (by omega)]; rfl
    rw [htake]
    have hxj : layN G ks k j x = G x := by rw [ih x, if_neg hxn]
    unfold layN layAt
    simp only [hx]
    match j, hj, ih, htake, hnd, hxn, hlast, hxj, hx with
    | 0, hj, ih, htake, hnd, hxn, hlast, hxj, hx =>
      simp only [List.take_zero, List.nil_append, List.mem_singleton]
      by_cases e : i = x
      · subst e
        have := hG i hxm
        rw [if_pos rfl]
        apply Nd.same <;> simp [hxj, nxt, prv, this]
      · rw [if_neg e]
        have := ih i
        simp at this
        apply Nd.same <;> simp [e, this]
    | m + 1, hj, ih, htake, hnd, hxn, hlast, hxj, hx =>
      obtain ⟨p, hp⟩ : ∃ p, ks[m]? = some p := ⟨_, List.getElem?_eq_getElem (by omega)⟩
      simp only [hp]
      have hl : (ks.take (m + 1)).getLast? = some p := by rw [hlast]; simp [hp]
      have hpm : p ∈ ks.take (m + 1) := List.mem_of_getLast? hl
      have hpx : p ≠ x := fun e => hxn (e ▸ hpm)
      by_cases e : i = x
      · subst e
        have := hG i hxm
        rw [if_pos (by simp)]
        rw [nxt_snoc_self _ _ hxn, prv_snoc_self, hl]
        apply Nd.same <;> simp [hxj, this, Ne.symm hpx]
      · rw [nxt_snoc _ _ _ hnd e, prv_snoc _ _ _ hnd e, hl]
        have hi := ih i
        by_cases em : i ∈ ks.take (m + 1)
        · rw [if_pos em] at hi
          rw [if_pos (by simp [em])]
          by_cases ep : i = p
          · subst ep
            apply Nd.same <;> simp [e, hi]
          · apply Nd.same <;> simp [e, hi, ep, Ne.symm ep]
        · rw [if_neg em] at hi
          rw [if_neg (by simp [em, e])]
          have ep : i ≠ p := fun h => em (h ▸ hpm)
          apply Nd.same <;> simp [e, hi, ep]

/-- What the first k rows tell. -/
def lkUpto (T : Gr) (k i : Nat) : Nd :=
  { first := if i < k then (T.kids i).head? else none, last := if i < k then (T.kids i).getLast? else none, parent := (T.par i).filter (· < k),
    next := ((T.par i).filter (· < k)).bind fun p => nxt (T.kids p) i, prev := ((T.par i).filter (· < k)).bind fun p => prv (T.kids p) i, count := if i < k then (T.kids i).length else 0 }

theorem head_first (G : Nat → Nd) (ks : List Nat) (k j : Nat) : (layHead G ks k j).first = if j = k ∧ ks ≠ [] then ks.head? else (G j).first := by
  unfold layHead; split <;> simp [*]
theorem head_last (G : Nat → Nd) (ks : List Nat) (k j : Nat) : (layHead G ks k j).last = if j = k ∧ ks ≠ [] then ks.getLast? else (G j).last := by
  unfold layHead; split <;> simp [*]
theorem head_count (G : Nat → Nd) (ks : List Nat) (k j : Nat) : (layHead G ks k j).count = if j = k ∧ ks ≠ [] then (ks.length : Int) else (G j).count := by
  unfold layHead; split <;> simp [*]
theorem head_parent (G : Nat → Nd) (ks : List Nat) (k j : Nat) : (layHead G ks k j).parent = (G j).parent := by
  unfold layHead; split <;> simp
theorem head_next (G : Nat → Nd) (ks : List Nat) (k j : Nat) : (layHead G ks k j).next = (G j).next := by
  unfold layHead; split <;> simp
theorem head_prev (G : Nat → Nd) (ks : List Nat) (k j : Nat) : (layHead G ks k j).prev = (G j).prev := by
  unfold layHead; split <;> simp

theorem upto_first (k i : Nat) (f : List Nat → Option Nat) (hf : f [] = none) (kids : Nat → List Nat) : (if i = k ∧ kids k ≠ [] then f (kids k) else if i < k then f (kids i) else none) = if i < k + 1 then f (kids i) else none := by
  by_cases e : i = k
  · subst e
    by_cases e2 : kids i = []
    · simp [e2, hf]
    · simp [e2]
  · have : (i < k + 1) = (i < k) := by simp; omega
    simp [e, this]
theorem upto_count (k i : Nat) (kids : Nat → List Nat) : (if i = k ∧ kids k ≠ [] then ((kids k).length : Int) else (if i < k then ((kids i).length : Int) else 0)) = (if i < k + 1 then ((kids i).length : Int) else 0) := by
  by_cases e : i = k
  · subst e
    by_cases e2 : kids i = []
    · simp [e2]
    · simp [e2]
  · have : (i < k + 1) = (i < k) := by simp; omega
    simp [e, this]

theorem lays_eq {n : Nat} {T : Gr} (h : WF n T) : ∀ k i, lays T k i = lkUpto T k i
  | 0, i => by
    apply Nd.same <;> simp [lays, lkUpto, Nd.new]
  | k + 1, i => by
    have ih := lays_eq h k
    have hG : ∀ x ∈ T.kids k, (lays T k x).next = none ∧ (lays T k x).prev = none := fun x hx => by
      rw [ih x]
      have hp := (h.mem k x).1 hx
      simp [lkUpto, hp, Option.filter]
    have hl := layN_eq (lays T k) (T.kids k) k (h.nd k) hG (T.kids k).length (Nat.le_refl _)
    simp only [List.take_length] at hl
    have hlay : layN (lays T k) (T.kids k) k (T.kids k).length i = if T.par i = some k then { lkUpto T k i with parent := some k, next := nxt (T.kids k) i, prev := prv (T.kids k) i } else lkUpto T k i := by
      rw [hl i, ih i]
      by_cases e : T.par i = some k
      · rw [if_pos e, if_pos ((h.mem k i).2 e)]
      · rw [if_neg e, if_neg (fun x => e ((h.mem k i).1 x))]
    have hf : (T.par i).filter (· < k + 1) = if T.par i = some k then some k else (T.par i).filter (· < k) := by
      cases hp : T.par i with
      | none => simp [Option.filter]
      | some p =>
        by_cases e : p = k
        · simp [Option.filter, e]
        · have : (p < k + 1) = (p < k) := by simp; omega
          simp [Option.filter, e, this]
    obtain ⟨G, hGG⟩ : ∃ G, layN (lays T k) (T.kids k) k (T.kids k).length = G := ⟨_, rfl⟩
    unfold lays
    rw [hGG] at hlay ⊢
    have h1 : (G i).first = (lkUpto T k i).first ∧ (G i).last = (lkUpto T k i).last ∧ (G i).count = (lkUpto T k i).count := by
      rw [hlay]; split <;> exact ⟨rfl, rfl, rfl⟩
    have h2 : (G i).parent = (lkUpto T (k + 1) i).parent ∧ (G i).next = (lkUpto T (k + 1) i).next ∧ (G i).prev = (lkUpto T (k + 1) i).prev := by
      rw [hlay]
      unfold lkUpto
      simp only [hf]
      split
      · exact ⟨rfl, rfl, rfl⟩
      · exact ⟨rfl, rfl, rfl⟩
    apply Nd.same
    · rw [head_first, h1.1]; exact upto_first k i List.head? rfl T.kids
    · rw [head_last, h1.2.1]; exact upto_first k i List.getLast? rfl T.kids
    · rw [head_parent]; exact h2.1
    · rw [head_next]; exact h2.2.1
    · rw [head_prev]; exact h2.2.2
    · rw [head_count, h1.2.2]; exact upto_count k i T.kids

theorem lays_all {n : Nat} {T : Gr} (h : WF n T) {i : Nat} (hi : i < n) : lays T n i = lk T i := by
  rw [lays_eq h]
  have hf : (T.par i).filter (· < n) = T.par i := by
    cases hp : T.par i with
    | none => rfl
    | some p => simp [Option.filter, (h.lt p i hp).1]
  unfold lkUpto lk
  rw [hf]
  simp [hi]
end Go.Proofs.Ytlggpodblabmdaa
