/-
  What impl.nodes makes, by a contract; a lemma text, no statement of the seat.
-/
import Derived.Test.YtlggpodblabmdaaChange
import Derived.Maps.AppendAt
namespace Go.Proofs.Ytlggpodblabmdaa
open Go.RowKit

/-- A new Blockquote's cells. -/
abbrev newCells : Array Value := #[.nilIface, .nilIface, .nilIface, .nilIface, .nilIface, .int .i64 0, .slice none 0 0, .bool false, .int .i64 0, .slice none 0 0, .bool false]

theorem new_c (w : World) : Calls Try.prog 29 #[] w fun e w' => e = .returned (.pointer (some ⟨w.heap.size, 0, none⟩)) ∧ w' = w.alloc (.cells newCells 99) := by
  go_enter Try.func29, Try.ntmps29
  go_wp2
  go_ret
  exact ⟨rfl, rfl⟩

theorem Try.info60 : (Try.prog.info? 60).map (fun i => (i.zero, i.size, i.bytes)) = some (some .nilIface, 1, 16) := by kernel_rfl

def chCells (c : Ch) : List Value := [.int .i64 c.kind, .int .i64 c.inn, .int .i64 c.att, .int .i64 c.what]

theorem chCells_at : ∀ (cs : List Ch) (k : Nat) (c : Ch) (j : Nat), cs[k]? = some c → j < 4 → (cs.flatMap chCells)[k * 4 + j]? = (chCells c)[j]?
  | [], _, _, _, h, _ => by simp at h
  | d :: cs, 0, c, j, h, hj => by
    simp at h; subst h
    simp only [List.flatMap_cons, Nat.zero_mul, Nat.zero_add]
    rw [List.getElem?_append_left (by simpa [chCells] using hj)]
  | d :: cs, k + 1, c, j, h, hj => by
    simp only [List.flatMap_cons]
    rw [List.getElem?_append_right (by simp [chCells]; omega), show (k + 1) * 4 + j - (chCells d).length = k * 4 + j from by simp [chCells]; omega]
    exact chCells_at cs k c j (by simpa using h) hj

/-- A list of changes in memory: what its value is, and its cells. -/
theorem ch_at {w : World} {b : Nat} {v : Value} {cs : List Ch} (h : w.ownsRow b 29 4 v cs.length (cs.flatMap chCells)) {k : Nat} {c : Ch} (hk : cs[k]? = some c) :
    ∃ g cap, v = .slice (some ⟨g, 0, none⟩) cs.length cap ∧ cs.length ≤ cap ∧ g < w.heap.size ∧ w.cell? ⟨g, k * 4, none⟩ = some (.int .i64 c.kind) ∧ w.cell? ⟨g, k * 4 + 1, none⟩ = some (.int .i64 c.inn) ∧
      w.cell? ⟨g, k * 4 + 2, none⟩ = some (.int .i64 c.att) ∧ w.cell? ⟨g, k * 4 + 3, none⟩ = some (.int .i64 c.what) := by
  have hlt : k < cs.length := (List.getElem?_eq_some_iff.1 hk).1
  have h0 := h
  obtain ⟨_, hv | ⟨g, cap, cur, rfl, _, hg, hcap, _⟩⟩ := h0
  · omega
  · have hc := fun j (hj : j < 4) => (h.cellAt (k * 4 + j) (by omega)).trans (chCells_at cs k c j hk hj)
    refine ⟨g, cap, rfl, hcap, ?_, hc 0 (by omega), hc 1 (by omega), hc 2 (by omega), hc 3 (by omega)⟩
    rcases Nat.lt_or_ge g w.heap.size with h' | h'
    · exact h'
    · simp [Array.getElem?_eq_none h'] at hg

theorem Kept.row {S : Nat → Prop} {w w' : World} (k : Kept S w w') {b e s n : Nat} {v : Value} {xs : List Value} (h : w.ownsRow b e s v n xs) (hs : ∀ g, v.ownBlock = some g → ¬ S g) : w'.ownsRow b e s v n xs := by
  have hlt := h.lt
  obtain ⟨hl, hv | ⟨g, cap, cur, rfl, hb, hg, r⟩⟩ := h
  · exact ⟨hl, .inl hv⟩
  · refine ⟨hl, .inr ⟨g, cap, cur, rfl, hb, ?_, r⟩⟩
    rw [k.block g (hlt g rfl).2 (hs g rfl)]; exact hg

/-- k nodes have been made, whose values are v. -/
def Made (w : World) (N : Nat → Nat) (k : Nat) (v : Value) (wr : World) : Prop :=
  wr.ownsRow w.heap.size 60 1 v k ((List.range k).map fun i => nv N (some i)) ∧ Rep wr N k (fun _ => Nd.new) ∧ (∀ i, i < k → w.heap.size ≤ N i) ∧ Below w.heap.size w wr

theorem rep_not_row {w : World} {N : Nat → Nat} {n : Nat} {G : Nat → Nd} (h : Rep w N n G) {b e s m : Nat} {v : Value} {xs : List Value} (hr : w.ownsRow b e s v m xs) (he : e ≠ 99) {i : Nat} (hi : i < n) : some (N i) ≠ v.ownBlock := by
  obtain ⟨_, ⟨rfl, _⟩ | ⟨g, cap, cur, rfl, _, hg, _⟩⟩ := hr
  · simp [Value.ownBlock]
  · intro x
    have hx : N i = g := by simpa [Value.ownBlock] using x
    have := h.blk i hi
    rw [hx, hg] at this
    simp at this
    exact he this.2

theorem made_next {w wr w1 : World} {k : Nat} {v v' : Value} {N : Nat → Nat} (h : Made w N k v wr)
    (hown : w1.ownsRow w.heap.size 60 1 v' (k + 1) ((List.range k).map (fun i => nv N (some i)) ++ [.iface 77 (.pointer (some ⟨wr.heap.size, 0, none⟩))]))
    (hgrow : ((wr.alloc (.cells newCells 99)).alloc (.cells #[.iface 77 (.pointer (some ⟨wr.heap.size, 0, none⟩))] 60)).grownBy w1 v.ownBlock) : Made w (fun j => if j = k then wr.heap.size else N j) (k + 1) v' w1 := by
  obtain ⟨ho, hr, hb, hbe⟩ := h
  have hsz := hbe.size
  have hN : ∀ i, i < k → N i < wr.heap.size := fun i hi => hr.lt hi
  have e0 : ∀ i, i < k → (fun j => if j = k then wr.heap.size else N j) i = N i := fun i hi => by simp [Nat.ne_of_lt hi]
  have eN : ∀ i, i < k → nv (fun j => if j = k then wr.heap.size else N j) (some i) = nv N (some i) := fun i hi => by rw [nv_some, nv_some]; simp only [e0 i hi]
  have hc : ∀ M, cellsOf M Nd.new = newCells := fun _ => rfl
  have hold : ∀ b, b < wr.heap.size → some b ≠ v.ownBlock → w1.heap[b]? = wr.heap[b]? := fun b hb' hne => by
    rw [hgrow.block b (by simp; omega) hne, Below.heap_alloc _ _ _ (by simp; omega), Below.heap_alloc _ _ _ hb']
  refine ⟨?_, ⟨fun i hi => ?_, fun i j hi hj => ?_⟩, fun i hi => ?_, ?_⟩
  · rw [List.range_succ, List.map_append]
    rw [show (List.range k).map (fun i => nv (fun j => if j = k then wr.heap.size else N j) (some i)) = (List.range k).map (fun i => nv N (some i)) from
      List.map_congr_left (fun i hi => eN i (List.mem_range.1 hi))]
    simpa [nv_some] using hown
  · rw [hc]
    by_cases e : i = k
    · subst e
      simp only [if_true]
      have hne : some wr.heap.size ≠ v.ownBlock := fun x => by
        have := (ho.lt wr.heap.size x.symm).2
        omega
      rw [hgrow.block _ (by simp; omega) hne, Below.heap_alloc _ _ _ (by simp)]
      exact heap_alloc_new wr _
    · have hi' : i < k := by omega
      simp only [e, if_false]
      rw [hold _ (hN i hi') (rep_not_row hr ho (by decide) hi'), hr.blk i hi', hc]
  · by_cases e : i = k <;> by_cases e2 : j = k
    · omega
    · have := hN j (by omega); simp [e, e2]; omega
    · have := hN i (by omega); simp [e, e2]; omega
    · simp only [e, e2, if_false]; exact hr.inj i j (by omega) (by omega)
  · by_cases e : i = k
    · simp [e, hsz]
    · simp only [e, if_false]; exact hb i (by omega)
  · exact (((hbe.alloc hsz _).alloc (by simp; omega) _).grown hgrow (by simp; omega) (fun b hb' => (ho.lt b hb').1))

end Go.Proofs.Ytlggpodblabmdaa
