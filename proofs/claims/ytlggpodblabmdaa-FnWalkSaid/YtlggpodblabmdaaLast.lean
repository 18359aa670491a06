/-
  A region that draws its order and whose last operation waits for all others: loads are taken first, and a condition on the world is owed behind each operation but the last one; a lemma text, no statement of the seat.
  The law is turned from the library's own on a condition that holds behind every operation (OrdersHeld, RegionHeld).
-/
import Derived.Deep.RegionHeld
namespace Go.Proofs.Ytlggpodblabmdaa


section
variable {P : Program} {ops : Array Oper} {Q : Exit → Act → World → Prop} {md : Region.Mode} {S : World → Prop} {last : Nat}

/-- Whatever order is picked from here on, and S holds behind every operation but the last one. -/
def wpAnyL (P : Program) (md : Region.Mode) (ops : Array Oper) (Q : Exit → Act → World → Prop) (S : World → Prop) (last : Nat) : Nat → Array Bool → Act → World → Prop
  | 0, listed, a, w => Region.ready md ops listed = [] ∧ Q .normal a w
  | fuel + 1, listed, a, w =>
    (Region.ready md ops listed = [] → Q .normal a w) ∧
    ∀ i ∈ Region.ready md ops listed, wpOp P ops Q i (fun a' w' => (i ≠ last → S w') ∧ wpAnyL P md ops Q S last fuel (listed.setIfInBounds i true) a' w') a w

theorem wpAny_of_last : ∀ (fuel : Nat) (listed : Array Bool) (a : Act) (w : World), wpAnyL P md ops Q S last fuel listed a w → wpAny P md ops Q fuel listed a w
  | 0, _, _, _, h => h
  | fuel + 1, _, _, _, h => ⟨h.1, fun i hi => wpOp_mono (fun a' w' h' => wpAny_of_last fuel _ a' w' h'.2) (h.2 i hi)⟩

theorem wpAnyL_first {i : Nat} {oi : Oper} {v : Value} (hi : ops[i]? = some oi) (hsel : ∀ (j : Nat) (o : Oper) cs b, ops[j]? = some o → o.op ≠ .select cs b)
    (hQ : ∀ c a w, Q (.panic c) (a.put oi.dst v) w → Q (.panic c) a w) (hil : i ≠ last) (hlast : ∀ o, ops[last]? = some o → ∃ e ∈ o.after, Region.binds md e = true ∧ e.on = i) :
    ∀ (fuel : Nat) (listed : Array Bool) (a : Act) (w : World),
      (∀ j oj, ops[j]? = some oj → j ≠ i → listed.getD j true = false → (∀ e ∈ oj.after, Region.binds md e = true → e.on ≠ i) → oi.apart ops oj = true) →
      i ∈ Region.ready md ops listed → YieldsIf P ops S oi v a → S w →
      wpAnyL P md ops Q S last fuel (listed.setIfInBounds i true) (a.put oi.dst v) w → wpAnyL P md ops Q S last (fuel + 1) listed a w := by
  intro fuel
  induction fuel with
  | zero =>
    intro listed a w _ hr hy hS H
    refine ⟨fun h => (by rw [h] at hr; cases hr), fun j hj => ?_⟩
    by_cases hji : j = i
    · subst hji; exact hy.wpOp hi hS ⟨fun _ => hS, H⟩
    · have := ready_mono hj hji
      rw [H.1] at this
      cases this
  | succ fuel ih =>
    intro listed a w hfree hr hy hS H
    refine ⟨fun h => (by rw [h] at hr; cases hr), fun j hj => ?_⟩
    by_cases hji : j = i
    · subst hji; exact hy.wpOp hi hS ⟨fun _ => hS, H⟩
    · have h1 := H.2 j (ready_mono hj hji)
      obtain ⟨hjun, oj, hoj, hall⟩ := mem_ready.1 hj
      have hnot : ∀ e ∈ oj.after, Region.binds md e = true → e.on ≠ i := fun e he hb heq => by
        have h1 := hall e he hb
        have h0 := (mem_ready.1 hr).1
        rw [heq] at h1
        rcases Nat.lt_or_ge i listed.size with h' | h'
        · simp [h'] at h0 h1; rw [h0] at h1; cases h1
        · simp [Array.getElem?_eq_none h'] at h1
      have hjl : j ≠ last := fun e => by
        subst e
        obtain ⟨e, he, hb, hon⟩ := hlast oj hoj
        exact hnot e he hb hon
      have h2 := wpOp_putIf hoj (hfree j oj hoj hji hjun hnot) (fun cs b => hsel i oi cs b hi) (fun cs b => hsel j oj cs b hoj) hQ hy h1
      have hfree' : ∀ k ok, ops[k]? = some ok → k ≠ i → (listed.setIfInBounds j true).getD k true = false →
          (∀ e ∈ ok.after, Region.binds md e = true → e.on ≠ i) → oi.apart ops ok = true := fun k ok hk hki hun hno => by
        refine hfree k ok hk hki ?_ hno
        by_cases hjk : j = k
        · subst hjk; exact hjun
        · rw [getD_set_ne true hjk] at hun; exact hun
      refine wpOp_mono (fun a' w' h3 => ⟨h3.2.1, ih (listed.setIfInBounds j true) a' w' hfree' (ready_mono hr (Ne.symm hji)) h3.1 (h3.2.1 hjl) ?_⟩) h2
      rw [Array.setIfInBounds_comm _ _ hji]
      exact h3.2.2

/-- Does the last operation wait for operation i itself? -/
def waits (md : Region.Mode) (ops : Array Oper) (last i : Nat) : Bool :=
  match ops[last]? with
  | some o => o.after.toList.any fun e => Region.binds md e && e.on == i
  | none => true

theorem waits_spec {i : Nat} (h : waits md ops last i = true) : ∀ o, ops[last]? = some o → ∃ e ∈ o.after, Region.binds md e = true ∧ e.on = i := fun o ho => by
  unfold waits at h
  rw [ho] at h
  obtain ⟨e, he, hb⟩ := List.any_eq_true.1 h
  simp only [Bool.and_eq_true, beq_iff_eq] at hb
  exact ⟨e, by simpa using he, hb.1, hb.2⟩

/-- Take number i first: it writes slot d. -/
theorem wpAnyL_take {i : Nat} {oi : Oper} {v : Value} {fuel : Nat} {listed : Array Bool} {a : Act} {w : World} (d : Tmp) (hi : ops[i]? = some oi) (hd : oi.dst = some d)
    (hs : Region.noSelect ops = true) (hf : Region.free md ops listed i = true) (hr : (Region.ready md ops listed).contains i = true) (hl : (i != last && waits md ops last i) = true)
    (hQ : ∀ c a w, Q (.panic c) { a with tmps := a.tmps.setIfInBounds d v } w → Q (.panic c) a w) (hw : Region.wanted oi (yielded ops a.tmps) = true) (hy : ∀ w, S w → (execOp a.eval oi).run P w = .ok (.value v) w) (hS : S w)
    (h : wpAnyL P md ops Q S last fuel (listed.setIfInBounds i true) { a with tmps := a.tmps.setIfInBounds d v } w) : wpAnyL P md ops Q S last (fuel + 1) listed a w := by
  simp only [Bool.and_eq_true, bne_iff_ne] at hl
  have hput : ∀ a : Act, a.put oi.dst v = { a with tmps := a.tmps.setIfInBounds d v } := fun a => by rw [hd]; rfl
  exact wpAnyL_first hi (Region.noSelect_spec hs) (fun c a w h => hQ c a w (by rw [← hput]; exact h)) hl.1 (waits_spec hl.2) fuel listed a w (Region.free_spec hi hf) (by simpa using hr) (.inl ⟨hw, hy⟩) hS (by rw [hput]; exact h)

/-- All have come up. -/
theorem wpAnyL_done {listed : Array Bool} {a : Act} {w : World} (hr : Region.ready md ops listed = []) (h : Q .normal a w) :
    ∀ fuel, wpAnyL P md ops Q S last fuel listed a w
  | 0 => ⟨hr, h⟩
  | _ + 1 => ⟨fun _ => h, by rw [hr]; simp⟩

/-- One operation alone may come up. -/
theorem wpAnyL_one {i : Nat} {o : Oper} {fuel : Nat} {listed : Array Bool} {a : Act} {w : World} (hr : Region.ready md ops listed = [i]) (ho : ops[i]? = some o)
    (h : ∀ K' : Act → World → Prop, Shut (∀ a w, (i ≠ last → S w) → wpAnyL P md ops Q S last fuel (listed.setIfInBounds i true) a w → K' a w) → if Region.wanted o (yielded ops a.tmps) = true then Oper.wp P o a w K' Q else K' (a.put o.dst undef) w) :
    wpAnyL P md ops Q S last (fuel + 1) listed a w :=
  ⟨fun h0 => by (rw [hr] at h0; cases h0), fun j hj => by
    rw [hr] at hj
    obtain rfl : j = i := by simpa using hj
    exact wpOp_step ho (fun K' hK => h K' (fun a w hS hW => hK a w ⟨hS, hW⟩))⟩

/-- One operation alone may come up; it writes slot d. -/
theorem wpAnyL_oneD {i : Nat} {o : Oper} {fuel : Nat} {listed : Array Bool} {a : Act} {w : World} (d : Tmp) (hr : Region.ready md ops listed = [i]) (ho : ops[i]? = some o) (hd : o.dst = some d)
    (h : ∀ K' : Act → World → Prop, Shut (∀ v w, (i ≠ last → S w) → wpAnyL P md ops Q S last fuel (listed.setIfInBounds i true) { a with tmps := a.tmps.setIfInBounds d v } w → K' (a.put o.dst v) w) → if Region.wanted o (yielded ops a.tmps) = true then Oper.wp P o a w K' Q else K' (a.put o.dst undef) w) :
    wpAnyL P md ops Q S last (fuel + 1) listed a w :=
  wpAnyL_one hr ho fun K' hK => h K' fun v w hS hW => hK.out _ _ hS (by rw [hd]; exact hW)

/-- One of two operations may come up; they write slots d and d'. -/
theorem wpAnyL_twoD {i i' : Nat} {o o' : Oper} {fuel : Nat} {listed : Array Bool} {a : Act} {w : World} (d d' : Tmp) (hr : Region.ready md ops listed = [i, i']) (ho : ops[i]? = some o) (ho' : ops[i']? = some o') (hd : o.dst = some d) (hd' : o'.dst = some d')
    (h : ∀ K' : Act → World → Prop, Shut (∀ v w, (i ≠ last → S w) → wpAnyL P md ops Q S last fuel (listed.setIfInBounds i true) { a with tmps := a.tmps.setIfInBounds d v } w → K' (a.put o.dst v) w) → if Region.wanted o (yielded ops a.tmps) = true then Oper.wp P o a w K' Q else K' (a.put o.dst undef) w)
    (h' : ∀ K' : Act → World → Prop, Shut (∀ v w, (i' ≠ last → S w) → wpAnyL P md ops Q S last fuel (listed.setIfInBounds i' true) { a with tmps := a.tmps.setIfInBounds d' v } w → K' (a.put o'.dst v) w) → if Region.wanted o' (yielded ops a.tmps) = true then Oper.wp P o' a w K' Q else K' (a.put o'.dst undef) w) :
    wpAnyL P md ops Q S last (fuel + 1) listed a w :=
  ⟨fun h0 => by (rw [hr] at h0; cases h0), fun j hj => by
    rw [hr] at hj
    rcases List.mem_cons.1 hj with rfl | hj
    · exact wpOp_step ho (fun K' hK => h K' (fun v w hS hW => hK _ _ ⟨hS, by rw [hd]; exact hW⟩))
    · obtain rfl : j = i' := by simpa using hj
      exact wpOp_step ho' (fun K' hK => h' K' (fun v w hS hW => hK _ _ ⟨hS, by rw [hd']; exact hW⟩))⟩

/-- One of two operations may come up; the first one writes slot d. -/
theorem wpAnyL_twoM {i i' : Nat} {o o' : Oper} {fuel : Nat} {listed : Array Bool} {a : Act} {w : World} (d : Tmp) (hr : Region.ready md ops listed = [i, i']) (ho : ops[i]? = some o) (ho' : ops[i']? = some o') (hd : o.dst = some d)
    (h : ∀ K' : Act → World → Prop, Shut (∀ v w, (i ≠ last → S w) → wpAnyL P md ops Q S last fuel (listed.setIfInBounds i true) { a with tmps := a.tmps.setIfInBounds d v } w → K' (a.put o.dst v) w) → if Region.wanted o (yielded ops a.tmps) = true then Oper.wp P o a w K' Q else K' (a.put o.dst undef) w)
    (h' : ∀ K' : Act → World → Prop, Shut (∀ a w, (i' ≠ last → S w) → wpAnyL P md ops Q S last fuel (listed.setIfInBounds i' true) a w → K' a w) → if Region.wanted o' (yielded ops a.tmps) = true then Oper.wp P o' a w K' Q else K' (a.put o'.dst undef) w) :
    wpAnyL P md ops Q S last (fuel + 1) listed a w :=
  ⟨fun h0 => by (rw [hr] at h0; cases h0), fun j hj => by
    rw [hr] at hj
    rcases List.mem_cons.1 hj with rfl | hj
    · exact wpOp_step ho (fun K' hK => h K' (fun v w hS hW => hK _ _ ⟨hS, by rw [hd]; exact hW⟩))
    · obtain rfl : j = i' := by simpa using hj
      exact wpOp_step ho' (fun K' hK => h' K' (fun a w hS hW => hK a w ⟨hS, hW⟩))⟩

/-- The beginning. -/
theorem wp_region_last {id : Nat} {a : Act} {w : World} (S : World → Prop) (last : Nat) (hm : P.follows .mixedOrders = true)
    (h : wpAnyL P .any ops Q S last ops.size (Array.replicate ops.size false) a w.drew) : (Code.region id ops true).wp P Q a w :=
  wp_region_any hm (wpAny_of_last _ _ _ _ h)
end
section
variable {P : Program} {ops : Array Oper} {Q : Exit → Act → World → Prop} {md : Region.Mode} {S : World → Prop} {last : Nat}
/-- Pass over number i, whose guard does not ask for it: its slot d is left without a value. -/
theorem wpAnyL_skip {i : Nat} {oi : Oper} {fuel : Nat} {listed : Array Bool} {a : Act} {w : World} (d : Tmp) (hi : ops[i]? = some oi) (hd : oi.dst = some d)
    (hs : Region.noSelect ops = true) (hf : Region.free md ops listed i = true) (hr : (Region.ready md ops listed).contains i = true) (hl : (i != last && waits md ops last i) = true)
    (hQ : ∀ c a w, Q (.panic c) { a with tmps := a.tmps.setIfInBounds d undef } w → Q (.panic c) a w) (hw : Region.wanted oi (yielded ops a.tmps) = false) (hS : S w)
    (h : wpAnyL P md ops Q S last fuel (listed.setIfInBounds i true) { a with tmps := a.tmps.setIfInBounds d undef } w) : wpAnyL P md ops Q S last (fuel + 1) listed a w := by
  simp only [Bool.and_eq_true, bne_iff_ne] at hl
  have hput : ∀ a : Act, a.put oi.dst undef = { a with tmps := a.tmps.setIfInBounds d undef } := fun a => by rw [hd]; rfl
  exact wpAnyL_first hi (Region.noSelect_spec hs) (fun c a w h => hQ c a w (by rw [← hput]; exact h)) hl.1 (waits_spec hl.2) fuel listed a w (Region.free_spec hi hf) (by simpa using hr) (.inr ⟨hw, rfl⟩) hS (by rw [hput]; exact h)
/-- The beginning, the world behind the draw under a name. -/
theorem wp_region_lastD {id : Nat} {a : Act} {w w1 : World} (S : World → Prop) (last : Nat) (hm : P.follows .mixedOrders = true) (hw1 : w.drew = w1)
    (h : wpAnyL P .any ops Q S last ops.size (Array.replicate ops.size false) a w1) : (Code.region id ops true).wp P Q a w := by
  subst hw1
  exact wp_region_last S last hm h
/-- wpAnyL_take, its value told last. -/
theorem wpAnyL_takeE {i : Nat} {oi : Oper} {fuel : Nat} {listed : Array Bool} {a : Act} {w : World} (d : Tmp) (hi : ops[i]? = some oi) (hd : oi.dst = some d)
    (hs : Region.noSelect ops = true) (hf : Region.free md ops listed i = true) (hr : (Region.ready md ops listed).contains i = true) (hl : (i != last && waits md ops last i) = true)
    (hQ : ∀ v c a w, Q (.panic c) { a with tmps := a.tmps.setIfInBounds d v } w → Q (.panic c) a w) (hw : Region.wanted oi (yielded ops a.tmps) = true) (hS : S w)
    (h : ∃ v, (∀ w, S w → (execOp a.eval oi).run P w = .ok (.value v) w) ∧ wpAnyL P md ops Q S last fuel (listed.setIfInBounds i true) { a with tmps := a.tmps.setIfInBounds d v } w) : wpAnyL P md ops Q S last (fuel + 1) listed a w := by
  obtain ⟨v, hy, h⟩ := h
  exact wpAnyL_take d hi hd hs hf hr hl (hQ v) hw hy hS h
end
end Go.Proofs.Ytlggpodblabmdaa
