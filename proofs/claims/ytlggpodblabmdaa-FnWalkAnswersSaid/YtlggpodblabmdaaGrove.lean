/-
  The reference's grove in memory; New, place and above by contracts; a lemma text, no statement of the seat.
-/
import Derived.Test.YtlggpodblabmdaaSame
namespace Go.Proofs.Ytlggpodblabmdaa
open Go.RowKit

def ints (l : List Nat) : List Value := l.map fun (x : Nat) => .int .i64 (x : Int)

/-- The grove of T lies in w: its struct in block a, the parents in block pb, the children's slices K in block kb. -/
structure GR (w : World) (n a pb pc kb kc : Nat) (T : Gr) (K : Nat → Value) : Prop where
  box : w.heap[a]? = some (.cells #[.slice (some ⟨pb, 0, none⟩) n pc, .slice (some ⟨kb, 0, none⟩) n kc] 41 (0, 0))
  par : w.ownsRow 0 3 1 (.slice (some ⟨pb, 0, none⟩) n pc) n ((List.range n).map fun i => .int .i64 (pn (T.par i)))
  kid : w.ownsRow 0 38 1 (.slice (some ⟨kb, 0, none⟩) n kc) n ((List.range n).map K)
  row : ∀ i, i < n → w.ownsRow 0 3 1 (K i) (T.kids i).length (ints (T.kids i))
  apart : ∀ i, i < n → (K i).ownBlock ≠ some pb

section
variable {w w' : World} {n a pb pc kb kc : Nat} {T : Gr} {K : Nat → Value}

theorem lt_of_heap {w : World} {b : Nat} {o : Obj} (h : w.heap[b]? = some o) : b < w.heap.size := by
  rcases Nat.lt_or_ge b w.heap.size with h' | h'
  · exact h'
  · simp [Array.getElem?_eq_none h'] at h

theorem GR.c0 (h : GR w n a pb pc kb kc T K) : w.cell? ⟨a, 0, none⟩ = some (.slice (some ⟨pb, 0, none⟩) n pc) := block_cell h.box rfl
theorem GR.c1 (h : GR w n a pb pc kb kc T K) : w.cell? ⟨a, 1, none⟩ = some (.slice (some ⟨kb, 0, none⟩) n kc) := block_cell h.box rfl
theorem GR.par_at (h : GR w n a pb pc kb kc T K) {i : Nat} (hi : i < n) : w.cell? ⟨pb, i, none⟩ = some (.int .i64 (pn (T.par i))) := by
  rw [h.par.cellAt i (by omega)]; simp [hi]
theorem GR.kid_at (h : GR w n a pb pc kb kc T K) {i : Nat} (hi : i < n) : w.cell? ⟨kb, i, none⟩ = some (K i) := by
  rw [h.kid.cellAt i (by omega)]; simp [hi]
theorem GR.a_lt (h : GR w n a pb pc kb kc T K) : a < w.heap.size := lt_of_heap h.box
theorem GR.pb_lt (h : GR w n a pb pc kb kc T K) : pb < w.heap.size := (h.par.lt pb rfl).2
theorem GR.kb_lt (h : GR w n a pb pc kb kc T K) : kb < w.heap.size := (h.kid.lt kb rfl).2
theorem GR.a_pb (h : GR w n a pb pc kb kc T K) : a ≠ pb := fun e => by
  obtain ⟨_, ⟨hv, _⟩ | ⟨g, cap, cur, hv, _, hg, _⟩⟩ := h.par
  · cases hv
  · obtain rfl : pb = g := by simpa [Value.ownBlock] using congrArg Value.ownBlock hv
    rw [← e, h.box] at hg; simp at hg
theorem GR.a_kb (h : GR w n a pb pc kb kc T K) : a ≠ kb := fun e => by
  obtain ⟨_, ⟨hv, _⟩ | ⟨g, cap, cur, hv, _, hg, _⟩⟩ := h.kid
  · cases hv
  · obtain rfl : kb = g := by simpa [Value.ownBlock] using congrArg Value.ownBlock hv
    rw [← e, h.box] at hg; simp at hg
theorem row_types {w : World} {b b' e e' s s' m m' : Nat} {v v' : Value} {xs xs' : List Value} (h : w.ownsRow b e s v m xs) (h' : w.ownsRow b' e' s' v' m' xs') (he : e ≠ e') {g : Nat} (hg : v.ownBlock = some g) : v'.ownBlock ≠ some g := fun hg' => by
  obtain ⟨_, ⟨rfl, _⟩ | ⟨g1, cap, cur, rfl, _, hh, _⟩⟩ := h
  · cases hg
  · obtain ⟨_, ⟨rfl, _⟩ | ⟨g2, cap', cur', rfl, _, hh', _⟩⟩ := h'
    · cases hg'
    · obtain rfl : g1 = g := by simpa [Value.ownBlock] using hg
      obtain rfl : g2 = g1 := by simpa [Value.ownBlock] using hg'
      rw [hh] at hh'; simp at hh'; exact he hh'.2
theorem GR.pb_kb (h : GR w n a pb pc kb kc T K) : pb ≠ kb := fun e => row_types h.par h.kid (by decide) (g := pb) rfl (by rw [e]; rfl)
theorem GR.row_kb (h : GR w n a pb pc kb kc T K) {i : Nat} (hi : i < n) : (K i).ownBlock ≠ some kb := row_types h.kid (h.row i hi) (by decide) rfl
theorem GR.row_a (h : GR w n a pb pc kb kc T K) {i : Nat} (hi : i < n) : (K i).ownBlock ≠ some a := fun e => by
  obtain ⟨_, ⟨hv, _⟩ | ⟨g, cap, cur, hv, _, hg, _⟩⟩ := h.row i hi
  · rw [hv] at e; cases e
  · rw [hv] at e
    obtain rfl : g = a := by simpa [Value.ownBlock] using e
    rw [h.box] at hg; simp at hg

/-- The grove stays where none of its blocks turns. -/
theorem GR.kept {S : Nat → Prop} (h : GR w n a pb pc kb kc T K) (k : Kept S w w') (ha : ¬ S a) (hp : ¬ S pb) (hk : ¬ S kb) (hr : ∀ i, i < n → ∀ g, (K i).ownBlock = some g → ¬ S g) : GR w' n a pb pc kb kc T K :=
  ⟨by rw [k.block _ h.a_lt ha]; exact h.box, k.row h.par (fun g hg => by cases hg; exact hp), k.row h.kid (fun g hg => by cases hg; exact hk), fun i hi => k.row (h.row i hi) (hr i hi), h.apart⟩

theorem GR.below (h : GR w n a pb pc kb kc T K) (k : Below w.heap.size w w') : GR w' n a pb pc kb kc T K :=
  h.kept (Kept.of_below (S := fun _ => False) k) id id id (fun _ _ _ _ => id)

/-- Where x stands among the children of p, as the code tells it. -/
def plcL (ks : List Nat) (x : Nat) : Int := if x ∈ ks then (ks.idxOf x : Int) else -1
def plc (T : Gr) (p x : Nat) : Int := plcL (T.kids p) x

theorem idx_take : ∀ (l : List Nat) (k x : Nat), l[k]? = some x → x ∉ l.take k → l.idxOf x = k
  | [], _, _, h, _ => by simp at h
  | y :: l, 0, x, h, _ => by simp at h; simp [h]
  | y :: l, k + 1, x, h, hn => by
    simp at h hn
    have hy : (y == x) = false := by simpa using fun e => hn.1 (by rw [e])
    rw [List.idxOf_cons, hy]
    simp [idx_take l k x h hn.2]

set_option maxHeartbeats 400000 in
theorem placeG_c (h : GR w n a pb pc kb kc T K) (hlen : ∀ i, (T.kids i).length ≤ 1000) {p : Nat} (hp : p < n) (x : Nat) :
    Calls Try.prog 19 #[.pointer (some ⟨a, 0, none⟩), .int .i64 p, .int .i64 x] w fun e w' => e = .returned (.int .i64 (plc T p x)) ∧ w = w' := by
  have c1 := h.c1
  have ck := h.kid_at hp
  obtain ⟨g, ao, cap, hv, hcap, hs⟩ := own_shape (h.row p hp)
  rw [hv] at ck
  have HS := Lib.hid hs
  have hl := hlen p
  have hi1 : (0 : Int) ≤ (p : Int) := Int.natCast_nonneg _
  have hi2 : (p : Int) < (n : Int) := by omega
  unfold plc
  obtain ⟨ks, hks⟩ : ∃ ks, T.kids p = ks := ⟨_, rfl⟩
  rw [hks] at HS ck hl hcap ⊢
  clear hv hs h hlen hks
  go_enter Try.func19, Try.ntmps19
  go_wp2_with fail
  go_loop [17] (fun i => ∃ k : Nat, k ≤ ks.length ∧ i = .int .i64 k ∧ x ∉ ks.take k) (fun i => ks.length - (intOf i).toNat)
  case atStart => exact ⟨0, Nat.zero_le _, rfl, by simp⟩
  case round =>
    obtain ⟨k, hk, rfl, hnx⟩ := hrel
    have HN := Lib.hid hnx
    clear hnx
    by_cases hlt : k < ks.length
    · obtain ⟨rfl, hg, -, hcell⟩ := HS.out (by omega)
      obtain ⟨y, hy⟩ : ∃ y, ks[k]? = some y := ⟨_, List.getElem?_eq_getElem hlt⟩
      have hcy : w.cell? ⟨g, k, none⟩ = some (.int .i64 (y : Int)) := by rw [hcell k (by omega)]; simp [ints, hy]
      have HY := Lib.hid hy
      clear hcell hg hy
      by_cases e : x = y
      · subst e
        have hm : x ∈ ks := List.mem_of_getElem? HY.out
        have hix : ks.idxOf x = k := idx_take ks k x HY.out HN.out
        have HX := Lib.hid (show plcL ks x = k by rw [plcL, if_pos hm, hix])
        clear hm hix
        go_wp2_with fail
        go_ret
        exact ⟨by rw [HX.out]; rfl, rfl⟩
      · have e1 : ((x : Int) == (y : Int)) = false := beq_eq_false_iff_ne.2 (by omega)
        have HE := Lib.hid e
        clear e
        go_wp2_with fail
        go_round
        case rel => exact ⟨k + 1, by omega, by go_num, by rw [List.take_add_one, HY.out]; simp; exact ⟨HN.out, HE.out⟩⟩
        case measure => simp [intOf]; omega
    · obtain rfl : k = ks.length := by omega
      have hm : x ∉ ks := by have := HN.out; rwa [List.take_length] at this
      have HX := Lib.hid (show plcL ks x = -1 by rw [plcL, if_neg hm])
      clear hm
      go_wp2_with fail
      go_ret
      exact ⟨by rw [HX.out]; rfl, rfl⟩
end
end Go.Proofs.Ytlggpodblabmdaa
