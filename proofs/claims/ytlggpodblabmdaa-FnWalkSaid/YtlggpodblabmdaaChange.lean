/-
  Changes of a tree, and goldmark's methods at a change, by contracts; a lemma text, no statement of the seat.
-/
import Derived.Test.YtlggpodblabmdaaPlainB
namespace Go.Proofs.Ytlggpodblabmdaa
open Go.RowKit

/-- A change: its kind, the node whose children it changes, the child that it goes by, the node that it puts there. -/
structure Ch where
  kind : Nat
  inn : Nat
  att : Nat
  what : Nat

def Gr.act (T : Gr) (c : Ch) : Gr :=
  if c.kind = 1 then (if c.what ∈ T.kids c.inn then T.drop c.inn (T.place c.inn c.what) else T)
  else if c.kind = 2 then T.clear c.inn
  else if c.kind = 3 then ((T.free c.what).drop c.inn ((T.free c.what).place c.inn c.att)).put c.inn ((T.free c.what).place c.inn c.att) c.what
  else if c.kind = 4 then (T.free c.what).put c.inn ((T.free c.what).place c.inn c.att) c.what
  else if c.kind = 5 then (T.free c.what).put c.inn ((T.free c.what).place c.inn c.att + 1) c.what
  else (T.free c.what).put c.inn ((T.free c.what).kids c.inn).length c.what

structure Valid (n : Nat) (T : Gr) (c : Ch) : Prop where
  kind : c.kind ≤ 5
  inn : c.inn < n
  att : c.att < n
  what : c.what < n
  child : 3 ≤ c.kind → T.par c.att = some c.inn ∧ c.att ≠ c.what
  behind : c.kind = 5 → ∃ x, nxt (T.kids c.inn) c.att = some x ∧ x ≠ c.what

theorem valid_free {n : Nat} {T : Gr} (h : WF n T) {c : Ch} (hv : Valid n T c) (hk : 3 ≤ c.kind) : (T.free c.what).par c.att = some c.inn := by
  rw [free_par h, if_neg (hv.child hk).2]; exact (hv.child hk).1

theorem free_none {n : Nat} {T : Gr} (h : WF n T) (x : Nat) : (T.free x).par x = none := by rw [free_par h]; simp

theorem drop_other {n : Nat} {T : Gr} (h : WF n T) {p x y : Nat} (hx : T.par x = some p) (hy : y ≠ x) : (T.drop p (T.place p x)).par y = T.par y := by
  obtain ⟨a, b, -, -, -, -, -, hdr⟩ := h.split hx
  rw [hdr]; simp [hy]

theorem drop_self {n : Nat} {T : Gr} (h : WF n T) {p x : Nat} (hx : T.par x = some p) : (T.drop p (T.place p x)).par x = none := by
  obtain ⟨a, b, -, -, -, -, -, hdr⟩ := h.split hx
  rw [hdr]; simp

theorem WF.act {n : Nat} {T : Gr} (h : WF n T) {c : Ch} (hv : Valid n T c) : WF n (T.act c) := by
  unfold Gr.act
  have h1 := h.free c.what
  have hx := free_none h c.what
  split
  · split
    · exact h.drop ((h.mem _ _).1 ‹_›)
    · exact h
  · split
    · exact h.clear _
    · split
      · have hp := valid_free h hv (by omega)
        refine (h1.drop hp).put ?_ hv.inn hv.what
        rw [drop_other h1 hp (Ne.symm (hv.child (by omega)).2)]
        exact hx
      · split
        · exact h1.put hx hv.inn hv.what
        · split
          · exact h1.put hx hv.inn hv.what
          · exact h1.put hx hv.inn hv.what

/-- To put ahead of v and then to take v away, or the other way round. -/
theorem put_drop {n : Nat} {T : Gr} (h : WF n T) {p v x : Nat} (hv : T.par v = some p) (hx : T.par x = none) :
    (T.put p (T.place p v) x).drop p ((T.put p (T.place p v) x).place p v) = (T.drop p (T.place p v)).put p (T.place p v) x := by
  obtain ⟨a, b, hab, hva, hvb, hn, hpl, hdr⟩ := h.split hv
  obtain ⟨a1, b1, hab1, ha, hb, hxa, hxb, hn1, hput⟩ := put_kids h hx (p := p) (i := T.place p v)
  obtain rfl : a1 = a := by rw [ha, hab, hpl]; simp
  obtain rfl : b1 = v :: b := by rw [hb, hab, hpl]; simp
  have hvx : v ≠ x := fun e => by rw [e, hx] at hv; cases hv
  have e1 : (T.put p (T.place p v) x).place p v = a1.length + 1 := by
    unfold Gr.place; rw [show ((T.put p (List.idxOf v (T.kids p)) x).kids p) = (a1 ++ [x]) ++ v :: b from by have := congrFun (congrArg Gr.kids hput) p; simpa [Gr.place] using this]
    rw [idx_mid _ _ _ (by simp [hva, hvx])]; simp
  rw [e1, hdr, hput]
  have d1 : (a1 ++ x :: v :: b).drop (a1.length + 1 + 1) = b := by
    rw [show a1 ++ x :: v :: b = (a1 ++ [x, v]) ++ b by simp, List.drop_left' (by simp)]
  have d2 : (a1 ++ x :: v :: b).take (a1.length + 1) = a1 ++ [x] := by
    rw [show a1 ++ x :: v :: b = (a1 ++ [x]) ++ v :: b by simp, List.take_left' (by simp)]
  have d3 : (a1 ++ x :: v :: b)[a1.length + 1]? = some v := by
    rw [show a1 ++ x :: v :: b = (a1 ++ [x]) ++ v :: b by simp, List.getElem?_append_right (by simp)]; simp
  unfold Gr.drop Gr.put
  congr 1
  · funext y
    simp only [if_true, d3, Option.some.injEq]
    by_cases e : y = v
    · subst e; simp [hvx]
    · simp [e, Ne.symm e]
  · funext q
    by_cases e : q = p
    · subst e; simp [d1, d2, hpl]
    · simp [e]

theorem nxt_split : ∀ (l : List Nat) (v x : Nat), nxt l v = some x → ∃ a b, l = a ++ v :: x :: b ∧ v ∉ a
  | [], _, _, h => by cases h
  | y :: l, v, x, h => by
    unfold nxt at h
    split at h
    · rename_i e
      subst e
      cases l with
      | nil => cases h
      | cons z l => simp at h; subst h; exact ⟨[], l, rfl, by simp⟩
    · rename_i e
      obtain ⟨a, b, rfl, ha⟩ := nxt_split l v x h
      exact ⟨y :: a, b, rfl, by simp [ha, Ne.symm e]⟩

/-- What stands behind a child stands behind it when another child is away. -/
theorem nxt_free {n : Nat} {T : Gr} (h : WF n T) {p v x j : Nat} (hn : nxt (T.kids p) v = some x) (hxj : x ≠ j) (hvj : v ≠ j) : nxt ((T.free j).kids p) v = some x := by
  unfold Gr.free
  cases hj : T.par j with
  | none => exact hn
  | some q =>
    obtain ⟨a, b, hab, hva, hvb, hnd, hpl, hdr⟩ := h.split hj
    simp only [hdr]
    by_cases e : p = q
    · subst e
      simp only [if_true]
      rw [nxt_del a b j v hnd hvj, ← hab, hn]
      by_cases e2 : a.getLast? = some v
      · have := nxt_ins a b j v hnd hvj
        rw [← hab, hn, if_pos e2] at this
        exact absurd (Option.some.inj this) hxj
      · rw [if_neg e2]
    · simp [e, hn]

theorem place_next {n : Nat} {T : Gr} (h : WF n T) {p v x : Nat} (hn : nxt (T.kids p) v = some x) : T.par x = some p ∧ T.place p x = T.place p v + 1 := by
  obtain ⟨a, b, hab, hva⟩ := nxt_split _ _ _ hn
  have hnd := h.nd p
  rw [hab] at hnd
  have h2 := List.nodup_append.1 hnd
  have hxv : x ≠ v := fun e => (List.nodup_cons.1 h2.2.1).1 (by rw [e]; exact .head _)
  have hxa : x ∉ a := fun hm => h2.2.2 x hm x (.tail _ (.head _)) rfl
  refine ⟨(h.mem p x).1 (by rw [hab]; simp), ?_⟩
  unfold Gr.place
  rw [hab, idx_mid _ _ _ hva, show a ++ v :: x :: b = (a ++ [v]) ++ x :: b by simp, idx_mid _ _ _ (by simp [hxa, hxv])]
  simp

section
variable {w : World} {N : Nat → Nat} {n : Nat} {T : Gr} {c : Ch}

theorem act0 (h : Rep w N n (lk T)) (hw : WF n T) (h1000 : n ≤ 1000) (hv : Valid n T c) (hk : c.kind = 0) :
    Calls Try.prog 51 #[.pointer (some ⟨N c.inn, 0, none⟩), .iface 77 (.pointer (some ⟨N c.inn, 0, none⟩)), .iface 77 (.pointer (some ⟨N c.what, 0, none⟩))] w fun e w' => e = .returned (.tuple #[]) ∧ Step N n w w' (lk (T.act c)) := by
  have h1 := hw.free c.what
  have hx := free_none hw c.what
  have e : T.act c = (T.free c.what).put c.inn ((T.free c.what).kids c.inn).length c.what := by simp [Gr.act, hk]
  rw [e]
  cases hf : (lk (T.free c.what) c.inn).first with
  | none =>
    have := append_one h (ok_lk hw) hv.inn hv.what (by rw [isolate_lk hw h1000]; exact hf)
    rw [isolate_lk hw h1000, append_one_lk h1 hx hf] at this
    exact this
  | some f =>
    cases hl : (lk (T.free c.what) c.inn).last with
    | none =>
      have e1 : (T.free c.what).kids c.inn = [] := by simpa [lk] using hl
      simp [lk, e1] at hf
    | some l =>
      have hln : l < n := (ok_lk h1 c.inn hv.inn).2.1 l hl
      have := append_more h (ok_lk hw) hv.inn hv.what hln (by rw [isolate_lk hw h1000]; exact hf) (by rw [isolate_lk hw h1000]; exact hl)
      rw [isolate_lk hw h1000, append_more_lk h1 h1000 hx hl] at this
      exact this

theorem act1 (h : Rep w N n (lk T)) (hw : WF n T) (h1000 : n ≤ 1000) (hv : Valid n T c) (hk : c.kind = 1) :
    Calls Try.prog 72 #[.pointer (some ⟨N c.inn, 0, none⟩), .iface 77 (.pointer (some ⟨N c.inn, 0, none⟩)), .iface 77 (.pointer (some ⟨N c.what, 0, none⟩))] w fun e w' => e = .returned (.tuple #[]) ∧ Step N n w w' (lk (T.act c)) := by
  have := remove_c h (ok_lk hw) hv.inn hv.what rfl rfl
  have e : removeChild (lk T) c.inn c.what = lk (T.act c) := by
    unfold Gr.act
    rw [if_pos hk]
    by_cases hp : T.par c.what = some c.inn
    · rw [if_pos ((hw.mem _ _).2 hp)]
      exact remove_lk hw hp (by have := hw.len c.inn; omega)
    · rw [if_neg (fun x => hp ((hw.mem _ _).1 x))]
      unfold removeChild
      rw [if_neg (show ¬ (lk T c.what).parent = some c.inn from hp)]
  rw [e] at this
  exact this

theorem act2 (h : Rep w N n (lk T)) (hw : WF n T) (hv : Valid n T c) (hk : c.kind = 2) :
    Calls Try.prog 73 #[.pointer (some ⟨N c.inn, 0, none⟩), .iface 77 (.pointer (some ⟨N c.inn, 0, none⟩))] w fun e w' => e = .returned (.tuple #[]) ∧ Step N n w w' (lk (T.act c)) := by
  have := remove_children h hv.inn (seg_lk hw c.inn) (hw.nd c.inn)
  have e : T.act c = T.clear c.inn := by simp [Gr.act, hk]
  rw [removeAll_lk hw, ← e] at this
  exact this

/-- What InsertBefore asks of v, told of the tree. -/
theorem insert_asks (hw : WF n T) (h1000 : n ≤ 1000) {i v j : Nat} (hv : (T.free j).par v = some i) :
    (isolate (inc (lk T) i) j v).parent = some i ∧ ∀ p, (isolate (inc (lk T) i) j v).prev = some p → p < n := by
  rw [isolate_inc hw h1000, isolate_lk hw h1000, inc_parent, inc_prev]
  exact ⟨hv, fun p hp => (ok_lk (hw.free j) v ((hw.free j).lt i v hv).2).2.2.2.2 p hp⟩

theorem act4 (h : Rep w N n (lk T)) (hw : WF n T) (h1000 : n ≤ 1000) (hv : Valid n T c) (hk : c.kind = 4) :
    Calls Try.prog 61 #[.pointer (some ⟨N c.inn, 0, none⟩), .iface 77 (.pointer (some ⟨N c.inn, 0, none⟩)), .iface 77 (.pointer (some ⟨N c.att, 0, none⟩)), .iface 77 (.pointer (some ⟨N c.what, 0, none⟩))] w fun e w' => e = .returned (.tuple #[]) ∧ Step N n w w' (lk (T.act c)) := by
  have hp := valid_free hw hv (by omega)
  have hq := insert_asks hw h1000 hp
  have := insert_c h (ok_lk hw) hv.inn hv.what hv.att hq.1 hq.2 rfl rfl rfl
  have e : T.act c = (T.free c.what).put c.inn ((T.free c.what).place c.inn c.att) c.what := by simp [Gr.act, hk]
  rw [insert_lk hw h1000 hp, ← e] at this
  exact this

theorem act3 (h : Rep w N n (lk T)) (hw : WF n T) (h1000 : n ≤ 1000) (hv : Valid n T c) (hk : c.kind = 3) :
    Calls Try.prog 74 #[.pointer (some ⟨N c.inn, 0, none⟩), .iface 77 (.pointer (some ⟨N c.inn, 0, none⟩)), .iface 77 (.pointer (some ⟨N c.att, 0, none⟩)), .iface 77 (.pointer (some ⟨N c.what, 0, none⟩))] w fun e w' => e = .returned (.tuple #[]) ∧ Step N n w w' (lk (T.act c)) := by
  have hp := valid_free hw hv (by omega)
  have hq := insert_asks hw h1000 hp
  have h1 := hw.free c.what
  have hx := free_none hw c.what
  have h2 := h1.put (p := c.inn) (i := (T.free c.what).place c.inn c.att) hx hv.inn hv.what
  have hpv : ((T.free c.what).put c.inn ((T.free c.what).place c.inn c.att) c.what).par c.att = some c.inn := by
    simp [Gr.put, (hv.child (by omega)).2, hp]
  have := replace_c h (ok_lk hw) hv.inn hv.what hv.att hq.1 hq.2 (by rw [insert_lk hw h1000 hp]; exact ok_lk h2)
  have e : T.act c = ((T.free c.what).drop c.inn ((T.free c.what).place c.inn c.att)).put c.inn ((T.free c.what).place c.inn c.att) c.what := by simp [Gr.act, hk]
  rw [insert_lk hw h1000 hp, remove_lk h2 hpv (by have := h2.len c.inn; omega), put_drop h1 hp hx, ← e] at this
  exact this

theorem act5 (h : Rep w N n (lk T)) (hw : WF n T) (h1000 : n ≤ 1000) (hv : Valid n T c) (hk : c.kind = 5) :
    Calls Try.prog 60 #[.pointer (some ⟨N c.inn, 0, none⟩), .iface 77 (.pointer (some ⟨N c.inn, 0, none⟩)), .iface 77 (.pointer (some ⟨N c.att, 0, none⟩)), .iface 77 (.pointer (some ⟨N c.what, 0, none⟩))] w fun e w' => e = .returned (.tuple #[]) ∧ Step N n w w' (lk (T.act c)) := by
  obtain ⟨x, hx, hxw⟩ := hv.behind hk
  have hc := hv.child (by omega)
  have hx1 := nxt_free hw (j := c.what) hx hxw hc.2
  obtain ⟨hp, hpl⟩ := place_next (hw.free c.what) hx1
  have hxn : x < n := (hw.lt c.inn x ((hw.mem _ _).1 (nxt_mem _ _ _ hx))).2
  have hq := insert_asks hw h1000 hp
  have := after_c h (ok_lk hw) hv.inn hv.what hv.att hxn (by simp [lk, hc.1, hx]) hq.1 hq.2
  have e : T.act c = (T.free c.what).put c.inn ((T.free c.what).place c.inn c.att + 1) c.what := by simp [Gr.act, hk]
  rw [insert_lk hw h1000 hp, hpl, ← e] at this
  exact this
end
end Go.Proofs.Ytlggpodblabmdaa
