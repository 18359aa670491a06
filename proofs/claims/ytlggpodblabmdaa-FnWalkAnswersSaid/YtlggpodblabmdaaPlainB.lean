/-
  That goldmark's methods do to the nodes what the changes do to the tree, in plain words; a lemma text, no statement of the seat.
-/
import Derived.Test.YtlggpodblabmdaaPlain
namespace Go.Proofs.Ytlggpodblabmdaa
open Go.RowKit

section
variable (G : Nat → Nd) (i j v l k : Nat) (p : Option Nat)
theorem one_eq : appendOne G i j = s_count (s_last (s_parent (s_prev (s_next (s_first G i (some j)) j none) j none) j (some i)) i (some j)) i
    (wrap64 ((s_last (s_parent (s_prev (s_next (s_first G i (some j)) j none) j none) j (some i)) i (some j) i).count + 1)) := rfl
theorem more_eq : appendMore G i j l = s_count (s_last (s_parent (s_prev (s_next G l (some j)) j (some l)) j (some i)) i (some j)) i
    (wrap64 ((s_last (s_parent (s_prev (s_next G l (some j)) j (some l)) j (some i)) i (some j) i).count + 1)) := rfl
theorem ins_none : ins G i v j none = s_parent (s_prev (s_next (s_prev (s_first G i (some j)) j none) j (some v)) v (some j)) j (some i) := rfl
theorem ins_some (p : Nat) : ins G i v j (some p) = s_parent (s_prev (s_next (s_prev (s_next G p (some j)) j (some p)) j (some v)) v (some j)) j (some i) := rfl
theorem inc_eq : inc G i = s_count G i (wrap64 ((G i).count + 1)) := rfl

theorem one_first : (appendOne G i j k).first = if k = i then some j else (G k).first := by simp [one_eq]
theorem one_last : (appendOne G i j k).last = if k = i then some j else (G k).last := by simp [one_eq]
theorem one_parent : (appendOne G i j k).parent = if k = j then some i else (G k).parent := by simp [one_eq]
theorem one_next : (appendOne G i j k).next = if k = j then none else (G k).next := by simp [one_eq]
theorem one_prev : (appendOne G i j k).prev = if k = j then none else (G k).prev := by simp [one_eq]
theorem one_count : (appendOne G i j k).count = if k = i then wrap64 ((G i).count + 1) else (G k).count := by simp [one_eq]

theorem more_first : (appendMore G i j l k).first = (G k).first := by simp [more_eq]
theorem more_last : (appendMore G i j l k).last = if k = i then some j else (G k).last := by simp [more_eq]
theorem more_parent : (appendMore G i j l k).parent = if k = j then some i else (G k).parent := by simp [more_eq]
theorem more_next : (appendMore G i j l k).next = if k = l then some j else (G k).next := by simp [more_eq]
theorem more_prev : (appendMore G i j l k).prev = if k = j then some l else (G k).prev := by simp [more_eq]
theorem more_count : (appendMore G i j l k).count = if k = i then wrap64 ((G i).count + 1) else (G k).count := by simp [more_eq]

theorem ins_first : (ins G i v j p k).first = if p = none ∧ k = i then some j else (G k).first := by cases p <;> simp [ins_none, ins_some]
theorem ins_last : (ins G i v j p k).last = (G k).last := by cases p <;> simp [ins_none, ins_some]
theorem ins_parent : (ins G i v j p k).parent = if k = j then some i else (G k).parent := by cases p <;> simp [ins_none, ins_some]
theorem ins_next : (ins G i v j p k).next = if k = j then some v else if p = some k then some j else (G k).next := by cases p <;> simp [ins_none, ins_some, eq_comm]
theorem ins_prev : (ins G i v j p k).prev = if k = v then some j else if k = j then p else (G k).prev := by cases p <;> simp [ins_none, ins_some]
theorem ins_count : (ins G i v j p k).count = (G k).count := by cases p <;> simp [ins_none, ins_some]

theorem inc_first : (inc G i k).first = (G k).first := by simp [inc_eq]
theorem inc_last : (inc G i k).last = (G k).last := by simp [inc_eq]
theorem inc_parent : (inc G i k).parent = (G k).parent := by simp [inc_eq]
theorem inc_next : (inc G i k).next = (G k).next := by simp [inc_eq]
theorem inc_prev : (inc G i k).prev = (G k).prev := by simp [inc_eq]
theorem inc_count : (inc G i k).count = if k = i then wrap64 ((G i).count + 1) else (G k).count := by simp [inc_eq]
end

theorem wrap_up (c : Int) (h0 : 0 ≤ c) (h : c ≤ 1000) : wrap64 (c + 1) = c + 1 := IntWalk.wrap64_in _ (by omega)
theorem wrap_dn (c : Int) (h0 : 0 ≤ c) (h : c ≤ 1000) : wrap64 (c - 1) = c - 1 := IntWalk.wrap64_in _ (by omega)
theorem wrap_ud (c : Int) (h0 : 0 ≤ c) (h : c ≤ 1000) : wrap64 (wrap64 (c + 1) - 1) = wrap64 (wrap64 (c - 1) + 1) := by
  rw [wrap_up c h0 h, wrap_dn c h0 h]; congr 1; omega

/-- What a put does to the list of children. -/
theorem put_kids {n : Nat} {T : Gr} (h : WF n T) {p x i : Nat} (hx : T.par x = none) :
    ∃ a b, T.kids p = a ++ b ∧ a = (T.kids p).take i ∧ b = (T.kids p).drop i ∧ x ∉ a ∧ x ∉ b ∧ (a ++ x :: b).Nodup ∧ T.put p i x = ⟨fun y => if y = x then some p else T.par y, fun q => if q = p then a ++ x :: b else T.kids q⟩ := by
  have hxm : x ∉ T.kids p := fun e => by rw [(h.mem p x).1 e] at hx; cases hx
  have hab : T.kids p = (T.kids p).take i ++ (T.kids p).drop i := (List.take_append_drop _ _).symm
  have hperm : ((T.kids p).take i ++ x :: (T.kids p).drop i).Perm (x :: T.kids p) := by
    refine List.perm_middle.trans ?_
    rw [List.take_append_drop]
  refine ⟨_, _, hab, rfl, rfl, fun e => hxm (List.mem_of_mem_take e), fun e => hxm (List.mem_of_mem_drop e), hperm.nodup_iff.2 (List.nodup_cons.2 ⟨hxm, h.nd p⟩), rfl⟩

/-- A node hung between a and b: what each field then is. -/
theorem lk_put {n : Nat} {T : Gr} (h : WF n T) {p x : Nat} (hx : T.par x = none) {a b : List Nat} (hab : T.kids p = a ++ b) (hn : (a ++ x :: b).Nodup) (k : Nat) :
    (lk ⟨fun y => if y = x then some p else T.par y, fun q => if q = p then a ++ x :: b else T.kids q⟩ k) =
      { first := if k = p then (a ++ x :: b).head? else (lk T k).first, last := if k = p then (a ++ x :: b).getLast? else (lk T k).last, parent := if k = x then some p else (lk T k).parent,
        next := if k = x then b.head? else if a.getLast? = some k then some x else (lk T k).next, prev := if k = x then a.getLast? else if b.head? = some k then some x else (lk T k).prev,
        count := if k = p then ((a ++ b).length : Int) + 1 else (lk T k).count } := by
  have hn' := List.nodup_append.1 hn
  have hxa : x ∉ a := fun hm => hn'.2.2 x hm x (.head _) rfl
  have hxb : x ∉ b := (List.nodup_cons.1 hn'.2.1).1
  apply Nd.same
  · by_cases e : k = p
    · simp [lk, e]
    · simp [lk, e]
  · by_cases e : k = p
    · simp [lk, e]
    · simp [lk, e]
  · simp [lk]
  · by_cases e : k = x
    · subst e; simp [lk, nxt_mid a b k hxa]
    · simp only [lk, e, if_false]
      by_cases hq : T.par k = some p
      · simp [hq, hab, nxt_ins a b x k hn e]
      · have : ¬ a.getLast? = some k := fun e => hq ((h.mem p k).1 (by rw [hab]; exact List.mem_append_left _ (List.mem_of_getLast? e)))
        rw [if_neg this]
        cases hz : T.par k with
        | none => rfl
        | some z => simp [show z ≠ p from fun e => hq (by rw [hz, e])]
  · by_cases e : k = x
    · subst e; simp [lk, prv_mid a b k hxb]
    · simp only [lk, e, if_false]
      by_cases hq : T.par k = some p
      · simp [hq, hab, prv_ins a b x k hn e]
      · have : ¬ b.head? = some k := fun e => hq ((h.mem p k).1 (by rw [hab]; exact List.mem_append_right _ (List.mem_of_head? e)))
        rw [if_neg this]
        cases hz : T.par k with
        | none => rfl
        | some z => simp [show z ≠ p from fun e => hq (by rw [hz, e])]
  · by_cases e : k = p
    · subst e; simp [lk]; omega
    · simp [lk, e]

theorem append_one_lk {n : Nat} {T : Gr} (h : WF n T) {p x : Nat} (hx : T.par x = none) (hf : (lk T p).first = none) :
    appendOne (lk T) p x = lk (T.put p (T.kids p).length x) := by
  obtain ⟨a, b, hab, ha, hb, hxa, hxb, hn, hput⟩ := put_kids h hx (p := p) (i := (T.kids p).length)
  have hk : T.kids p = [] := by simpa [lk] using hf
  obtain ⟨rfl, rfl⟩ : a = [] ∧ b = [] := by rw [hk] at hab; simpa [eq_comm] using hab
  rw [hput]
  funext k
  rw [lk_put h hx hab hn]
  apply Nd.same
  · simp [one_first]
  · simp [one_last]
  · simp [one_parent]
  · simp [one_next]
  · simp [one_prev]
  · rw [one_count]
    by_cases e : k = p
    · subst e; simp [lk, hk, wrap64]
    · simp [e]

theorem append_more_lk {n : Nat} {T : Gr} (h : WF n T) (h1000 : n ≤ 1000) {p x l : Nat} (hx : T.par x = none) (hl : (lk T p).last = some l) :
    appendMore (lk T) p x l = lk (T.put p (T.kids p).length x) := by
  obtain ⟨a, b, hab, ha, hb, hxa, hxb, hn, hput⟩ := put_kids h hx (p := p) (i := (T.kids p).length)
  have hlen := h.len p
  obtain rfl : b = [] := by rw [hb]; simp
  rw [List.append_nil] at hab
  have hl' : a.getLast? = some l := by rw [← hab]; simpa [lk] using hl
  have hne : l ≠ x := fun e => hxa (by rw [← e]; exact List.mem_of_getLast? hl')
  rw [hput]
  funext k
  rw [lk_put h hx (by rw [hab]; simp) hn]
  apply Nd.same
  · rw [more_first]
    by_cases e : k = p
    · subst e; simp [lk, hab, List.head?_append]
      cases a with
      | nil => simp at hl'
      | cons y a => simp
    · simp [e]
  · simp [more_last]
  · simp [more_parent]
  · rw [more_next]
    by_cases e : k = x
    · subst e; simp [Ne.symm hne, lk, hx]
    · simp [hl', e, eq_comm]
  · simp [more_prev, hl']
  · rw [more_count]
    by_cases e : k = p
    · subst e
      simp only [lk, if_true, List.append_nil, ← hab]
      exact wrap_up _ (by omega) (by omega)
    · simp [e]

theorem lk_count_le {n : Nat} {T : Gr} (h : WF n T) (h1000 : n ≤ 1000) (p : Nat) : 0 ≤ (lk T p).count ∧ (lk T p).count ≤ 1000 := by
  have := h.len p
  simp only [lk]
  omega

/-- To count first and to isolate then is to isolate first. -/
theorem isolate_inc {n : Nat} {T : Gr} (h : WF n T) (h1000 : n ≤ 1000) (i x : Nat) : isolate (inc (lk T) i) x = inc (isolate (lk T) x) i := by
  unfold isolate
  rw [inc_parent]
  cases hx : (lk T x).parent with
  | none => rfl
  | some p =>
    simp only []
    unfold removeChild
    rw [inc_parent, hx, if_pos rfl, if_pos rfl, inc_prev, inc_next]
    funext k
    apply Nd.same
    · simp only [rmv_first, inc_first]
    · simp only [rmv_last, inc_last]
    · simp only [rmv_parent, inc_parent]
    · simp only [rmv_next, inc_next]
    · simp only [rmv_prev, inc_prev]
    · simp only [rmv_count, inc_count]
      by_cases e : k = p
      · subst e
        by_cases e2 : k = i
        · subst e2
          have := lk_count_le h h1000 k
          simp only [if_true]
          exact wrap_ud _ this.1 this.2
        · simp [e2]
      · by_cases e2 : k = i
        · subst e2; simp [e]
        · simp [e, e2]

theorem head_mid (a b : List Nat) (x : Nat) : (a ++ x :: b).head? = if a.getLast? = none then some x else a.head? := by
  cases a with
  | nil => simp
  | cons y a =>
    have : (y :: a).getLast? ≠ none := by simp
    rw [if_neg this]; simp

theorem insert_lk {n : Nat} {T : Gr} (h : WF n T) (h1000 : n ≤ 1000) {i v x : Nat} (hv : (T.free x).par v = some i) :
    insertBefore (lk T) i v x = lk ((T.free x).put i ((T.free x).place i v) x) := by
  have h1 := h.free x
  have hx : (T.free x).par x = none := by rw [free_par h]; simp
  obtain ⟨a, b', hab, hva, hvb, hnv, hpl, -⟩ := h1.split hv
  obtain ⟨a1, b1, hab1, ha, hb, hxa, hxb, hn, hput⟩ := put_kids h1 hx (p := i) (i := (T.free x).place i v)
  obtain rfl : a1 = a := by rw [ha, hab, hpl]; simp
  obtain rfl : b1 = v :: b' := by rw [hb, hab, hpl]; simp
  have hvx : v ≠ x := fun e => by rw [e, hx] at hv; cases hv
  have hlen := h1.len i
  unfold insertBefore
  rw [isolate_inc h h1000, isolate_lk h h1000]
  generalize T.free x = T1 at *
  have e1 : (inc (lk T1) i v).prev = a1.getLast? := by rw [inc_prev]; simp [lk, hv, hab, prv_mid a1 b' v hvb]
  rw [e1, hput]
  funext k
  rw [lk_put h1 hx hab1 hn]
  apply Nd.same
  · simp only [ins_first, inc_first]
    by_cases e : k = i
    · subst e
      simp only [and_true, if_true, head_mid]
      by_cases e2 : a1.getLast? = none
      · simp [e2]
      · simp only [e2, if_false, lk, hab, head_mid]
    · simp [e]
  · simp only [ins_last, inc_last]
    by_cases e : k = i
    · subst e; simp [lk, hab]
    · simp [e]
  · simp [ins_parent, inc_parent]
  · simp only [ins_next, inc_next, List.head?_cons]
  · simp only [ins_prev, inc_prev, List.head?_cons, Option.some.injEq]
    by_cases e : k = x
    · subst e; simp [Ne.symm hvx]
    · by_cases e2 : k = v
      · subst e2; simp [e]
      · simp [e, e2, Ne.symm e2]
  · simp only [ins_count, inc_count]
    by_cases e : k = i
    · subst e
      simp only [if_true, lk, hab1]
      rw [hab1] at hlen
      exact wrap_up _ (by omega) (by omega)
    · simp [e]

theorem clears_first : ∀ (ks : List Nat) (G : Nat → Nd) (k : Nat), (clears G ks k).first = (G k).first
  | [], _, _ => rfl
  | x :: ks, G, k => by rw [clears, clears_first ks]; show (s_next (s_prev (s_parent G x none) x none) x none k).first = _; simp
theorem clears_last : ∀ (ks : List Nat) (G : Nat → Nd) (k : Nat), (clears G ks k).last = (G k).last
  | [], _, _ => rfl
  | x :: ks, G, k => by rw [clears, clears_last ks]; show (s_next (s_prev (s_parent G x none) x none) x none k).last = _; simp
theorem clears_count : ∀ (ks : List Nat) (G : Nat → Nd) (k : Nat), (clears G ks k).count = (G k).count
  | [], _, _ => rfl
  | x :: ks, G, k => by rw [clears, clears_count ks]; show (s_next (s_prev (s_parent G x none) x none) x none k).count = _; simp
theorem clears_parent : ∀ (ks : List Nat) (G : Nat → Nd) (k : Nat), (clears G ks k).parent = if k ∈ ks then none else (G k).parent
  | [], _, _ => by simp [clears]
  | x :: ks, G, k => by
    rw [clears, clears_parent ks, show (clr1 G x k).parent = (s_next (s_prev (s_parent G x none) x none) x none k).parent from rfl]
    by_cases e : k = x <;> by_cases e2 : k ∈ ks <;> simp [e, e2]
theorem clears_next : ∀ (ks : List Nat) (G : Nat → Nd) (k : Nat), (clears G ks k).next = if k ∈ ks then none else (G k).next
  | [], _, _ => by simp [clears]
  | x :: ks, G, k => by
    rw [clears, clears_next ks, show (clr1 G x k).next = (s_next (s_prev (s_parent G x none) x none) x none k).next from rfl]
    by_cases e : k = x <;> by_cases e2 : k ∈ ks <;> simp [e, e2]
theorem clears_prev : ∀ (ks : List Nat) (G : Nat → Nd) (k : Nat), (clears G ks k).prev = if k ∈ ks then none else (G k).prev
  | [], _, _ => by simp [clears]
  | x :: ks, G, k => by
    rw [clears, clears_prev ks, show (clr1 G x k).prev = (s_next (s_prev (s_parent G x none) x none) x none k).prev from rfl]
    by_cases e : k = x <;> by_cases e2 : k ∈ ks <;> simp [e, e2]

theorem removeAll_eq (G : Nat → Nd) (i : Nat) (ks : List Nat) : removeAll G i ks = s_count (s_last (s_first (clears G ks) i none) i none) i 0 := rfl

theorem removeAll_lk {n : Nat} {T : Gr} (h : WF n T) (i : Nat) : removeAll (lk T) i (T.kids i) = lk (T.clear i) := by
  funext k
  rw [removeAll_eq]
  have hk : ∀ {q : Nat}, T.par k = some q → (k ∈ T.kids i ↔ q = i) := fun {q} hq => by rw [h.mem, hq]; simp
  apply Nd.same
  · by_cases e : k = i <;> simp [e, clears_first, lk, Gr.clear]
  · by_cases e : k = i <;> simp [e, clears_last, lk, Gr.clear]
  · simp [clears_parent, lk, Gr.clear]
  · simp only [s_count_next, s_last_next, s_first_next, clears_next, lk, Gr.clear]
    by_cases e : k ∈ T.kids i
    · simp [e]
    · simp only [e, if_false]
      cases hq : T.par k with
      | none => rfl
      | some q => simp [show ¬ q = i from fun x => e ((hk hq).2 x)]
  · simp only [s_count_prev, s_last_prev, s_first_prev, clears_prev, lk, Gr.clear]
    by_cases e : k ∈ T.kids i
    · simp [e]
    · simp only [e, if_false]
      cases hq : T.par k with
      | none => rfl
      | some q => simp [show ¬ q = i from fun x => e ((hk hq).2 x)]
  · by_cases e : k = i <;> simp [e, clears_count, lk, Gr.clear]

theorem seg_suffix {n : Nat} {T : Gr} (h : WF n T) (i : Nat) : ∀ (rest a : List Nat), T.kids i = a ++ rest → Seg n (lk T) rest.head? rest
  | [], _, _ => rfl
  | k :: rest, a, hab => by
    have hk : T.par k = some i := (h.mem i k).1 (by rw [hab]; simp)
    have hn := h.nd i
    rw [hab] at hn
    have hka : k ∉ a := fun hm => (List.nodup_append.1 hn).2.2 k hm k (.head _) rfl
    refine ⟨rfl, (h.lt i k hk).2, ?_⟩
    have : (lk T k).next = rest.head? := by simp [lk, hk, hab, nxt_mid a rest k hka]
    rw [this]
    exact seg_suffix h i rest (a ++ [k]) (by rw [hab]; simp)

theorem seg_lk {n : Nat} {T : Gr} (h : WF n T) (i : Nat) : Seg n (lk T) (lk T i).first (T.kids i) := seg_suffix h i (T.kids i) [] rfl

theorem nxt_mem : ∀ (l : List Nat) (x y : Nat), nxt l x = some y → y ∈ l
  | [], _, _, h => by cases h
  | z :: l, x, y, h => by
    unfold nxt at h
    split at h
    · exact .tail _ (List.mem_of_head? h)
    · exact .tail _ (nxt_mem l x y h)

theorem ok_lk {n : Nat} {T : Gr} (h : WF n T) : Ok n (lk T) := fun i _ => by
  refine ⟨fun q hq => ?_, fun q hq => ?_, fun q hq => (h.lt q i hq).1, fun q hq => ?_, fun q hq => ?_⟩
  · exact (h.lt i q ((h.mem i q).1 (List.mem_of_head? hq))).2
  · exact (h.lt i q ((h.mem i q).1 (List.mem_of_getLast? hq))).2
  · cases hp : T.par i with
    | none => simp [lk, hp] at hq
    | some p =>
      have : nxt (T.kids p) i = some q := by simpa [lk, hp] using hq
      exact (h.lt p q ((h.mem p q).1 (nxt_mem _ _ _ this))).2
  · cases hp : T.par i with
    | none => simp [lk, hp] at hq
    | some p =>
      have : prv (T.kids p) i = some q := by simpa [lk, hp] using hq
      exact (h.lt p q ((h.mem p q).1 (List.mem_reverse.1 (nxt_mem _ _ _ this)))).2
end Go.Proofs.Ytlggpodblabmdaa
