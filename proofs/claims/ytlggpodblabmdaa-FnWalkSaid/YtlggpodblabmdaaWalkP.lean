/-
  A walk through a tree, in plain words; a lemma text, no statement of the seat.
-/
import Derived.Test.YtlggpodblabmdaaAbove
namespace Go.Proofs.Ytlggpodblabmdaa
open Go.RowKit

/-- The visits as cells. -/
def visL (l : List (Nat × Bool)) : List Value := l.flatMap fun v => [.int .i64 (v.1 : Int), .bool v.2]

/-- One walk behind the other, as long as none stops. -/
def wkl (g : Nat → List (Nat × Bool) → List (Nat × Bool) × Bool) : List Nat → List (Nat × Bool) → List (Nat × Bool) × Bool
  | [], to => (to, true)
  | y :: ks, to => if (g y to).2 = true then wkl g ks (g y to).1 else ((g y to).1, false)

/-- Behind the children. -/
def wkEnd (A : Nat → Nat) (x : Nat) (r : List (Nat × Bool) × Bool) : List (Nat × Bool) × Bool :=
  if r.2 = true then (r.1 ++ [(x, false)], decide (A (r.1.length + 1) ≠ 2)) else (r.1, false)

/-- The walk from x on, so deep; A tells the answer behind so many visits: 0 go on, 1 skip, 2 stop. -/
def wk (T : Gr) (A : Nat → Nat) : Nat → Nat → List (Nat × Bool) → List (Nat × Bool) × Bool
  | 0, _, to => (to, true)
  | f + 1, x, to =>
    if A (to.length + 1) = 2 then (to ++ [(x, true)], false)
    else wkEnd A x (if A (to.length + 1) = 0 then wkl (wk T A f) (T.kids x) (to ++ [(x, true)]) else (to ++ [(x, true)], true))

/-- How many nodes stand below x, and x. -/
def sz (T : Gr) : Nat → Nat → Nat
  | 0, _ => 0
  | f + 1, x => 1 + ((T.kids x).map (sz T f)).sum

theorem wkl_len (g : Nat → List (Nat × Bool) → List (Nat × Bool) × Bool) (s : Nat → Nat) (hg : ∀ y to, (g y to).1.length ≤ to.length + 2 * s y) : ∀ (ks : List Nat) (to : List (Nat × Bool)), (wkl g ks to).1.length ≤ to.length + 2 * (ks.map s).sum
  | [], to => by simp [wkl]
  | y :: ks, to => by
    have h1 := hg y to
    unfold wkl
    split
    · have h2 := wkl_len g s hg ks (g y to).1
      simp only [List.map_cons, List.sum_cons]
      omega
    · simp only [List.map_cons, List.sum_cons]
      omega

theorem wk_len (T : Gr) (A : Nat → Nat) : ∀ (f x : Nat) (to : List (Nat × Bool)), (wk T A f x to).1.length ≤ to.length + 2 * sz T f x
  | 0, _, to => by simp [wk]
  | f + 1, x, to => by
    have h1 := wkl_len (wk T A f) (sz T f) (wk_len T A f) (T.kids x) (to ++ [(x, true)])
    simp only [List.length_append, List.length_cons, List.length_nil] at h1
    unfold wk sz
    split
    · simp; omega
    · unfold wkEnd
      split <;> split <;> simp <;> omega

/-- All nodes below x, and x. -/
def desc (T : Gr) : Nat → Nat → List Nat
  | 0, _ => []
  | f + 1, x => x :: (T.kids x).flatMap (desc T f)

theorem desc_len (T : Gr) : ∀ f x, (desc T f x).length = sz T f x
  | 0, _ => rfl
  | f + 1, x => by
    unfold desc sz
    rw [List.length_cons, List.length_flatMap, Nat.add_comm]
    congr 2
    exact List.map_congr_left fun y _ => desc_len T f y

theorem anc_add (T : Gr) : ∀ (k j y : Nat), anc T (k + j) y = (anc T k y).bind (anc T j)
  | 0, j, y => by simp [anc]
  | k + 1, j, y => by
    rw [Nat.add_right_comm]
    simp only [anc]
    cases T.par y with
    | none => rfl
    | some p => simp only [Option.bind_some]; exact anc_add T k j p

theorem Ab.trans {T : Gr} {x y z : Nat} (h : Ab T x y) (h' : Ab T y z) : Ab T x z := by
  obtain ⟨j, hj⟩ := h
  obtain ⟨k, hk⟩ := h'
  exact ⟨k + j, by rw [anc_add, hk]; exact hj⟩

theorem Ab.line {T : Gr} {x y z : Nat} (h : Ab T x z) (h' : Ab T y z) : Ab T x y ∨ Ab T y x := by
  obtain ⟨j, hj⟩ := h
  obtain ⟨k, hk⟩ := h'
  rcases Nat.le_total j k with e | e
  · right
    refine ⟨k - j, ?_⟩
    rw [show k = j + (k - j) by omega, anc_add, hj] at hk
    exact hk
  · left
    refine ⟨j - k, ?_⟩
    rw [show j = k + (j - k) by omega, anc_add, hk] at hj
    exact hj

theorem Ab.depth {T : Gr} {d : Nat → Nat} (hd : ∀ x p, T.par x = some p → d p < d x) {x y : Nat} (h : Ab T x y) : d x ≤ d y := by
  obtain ⟨k, hk⟩ := h
  induction k generalizing y with
  | zero => simp [anc] at hk; rw [hk]; exact Nat.le_refl _
  | succ k ih =>
    simp only [anc] at hk
    cases hp : T.par y with
    | none => simp [hp] at hk
    | some p =>
      rw [hp] at hk
      have := ih hk
      have := hd y p hp
      omega

theorem desc_ab {n : Nat} {T : Gr} (hw : WF n T) : ∀ (f x y : Nat), y ∈ desc T f x → Ab T x y
  | 0, _, _, h => by simp [desc] at h
  | f + 1, x, y, h => by
    simp only [desc, List.mem_cons, List.mem_flatMap] at h
    rcases h with rfl | ⟨z, hz, hy⟩
    · exact Ab.self T y
    · exact (Ab.up ((hw.mem x z).1 hz) (Ab.self T x)).trans (desc_ab hw f z y hy)

theorem desc_lt {n : Nat} {T : Gr} (hw : WF n T) : ∀ (f x y : Nat), x < n → y ∈ desc T f x → y < n
  | 0, _, _, _, h => by simp [desc] at h
  | f + 1, x, y, hx, h => by
    simp only [desc, List.mem_cons, List.mem_flatMap] at h
    rcases h with rfl | ⟨z, hz, hy⟩
    · exact hx
    · exact desc_lt hw f z y (hw.lt x z ((hw.mem x z).1 hz)).2 hy

theorem nodup_flat {f : Nat → List Nat} : ∀ (l : List Nat), l.Nodup → (∀ z ∈ l, (f z).Nodup) → (∀ z ∈ l, ∀ z' ∈ l, z ≠ z' → ∀ y ∈ f z, y ∉ f z') → (l.flatMap f).Nodup
  | [], _, _, _ => by simp
  | a :: l, hn, h1, h2 => by
    rw [List.flatMap_cons, List.nodup_append]
    have hc := List.nodup_cons.1 hn
    refine ⟨h1 a (.head _), nodup_flat l hc.2 (fun z hz => h1 z (.tail _ hz)) (fun z hz z' hz' => h2 z (.tail _ hz) z' (.tail _ hz')), fun y hy y' hy' e => ?_⟩
    subst e
    obtain ⟨z, hz, hyz⟩ := List.mem_flatMap.1 hy'
    exact h2 a (.head _) z (.tail _ hz) (fun e => hc.1 (by rw [e]; exact hz)) y hy hyz

theorem desc_nodup {n : Nat} {T : Gr} (hw : WF n T) {d : Nat → Nat} (hd : ∀ x p, T.par x = some p → d p < d x) : ∀ (f x : Nat), (desc T f x).Nodup
  | 0, _ => List.nodup_nil
  | f + 1, x => by
    unfold desc
    rw [List.nodup_cons]
    refine ⟨fun hm => ?_, nodup_flat _ (hw.nd x) (fun z _ => desc_nodup hw hd f z) (fun z hz z' hz' hne y hy hy' => ?_)⟩
    · obtain ⟨z, hz, hx⟩ := List.mem_flatMap.1 hm
      have h1 := (desc_ab hw f z x hx).depth hd
      have h2 := hd z x ((hw.mem x z).1 hz)
      omega
    · have key : ∀ u v, u ∈ T.kids x → v ∈ T.kids x → u ≠ v → Ab T u v → False := fun u v hu hv hne hab => by
        rcases hab.cases with e | ⟨p, hp, hab⟩
        · exact hne e
        · have hv' := (hw.mem x v).1 hv
          rw [hv'] at hp
          cases hp
          have h1 := hab.depth hd
          have h2 := hd u x ((hw.mem x u).1 hu)
          omega
      rcases (desc_ab hw f z y hy).line (desc_ab hw f z' y hy') with h | h
      · exact key z z' hz hz' hne h
      · exact key z' z hz' hz (Ne.symm hne) h

theorem sz_le {n : Nat} {T : Gr} (hw : WF n T) {d : Nat → Nat} (hd : ∀ x p, T.par x = some p → d p < d x) (f x : Nat) (hx : x < n) : sz T f x ≤ n := by
  rw [← desc_len]
  have hs : desc T f x ⊆ List.range n := fun y hy => List.mem_range.2 (desc_lt hw f x y hx hy)
  have := List.Nodup.length_le_of_subset (desc_nodup hw hd f x) hs
  simpa using this

/-- The answer behind so many visits. -/
def ansAt (zs : List Int) (k : Nat) : Nat := if zs = [] then 0 else ((zs.getD ((k - 1) % zs.length) 0) % 3).toNat

theorem ansAt_le (zs : List Int) (k : Nat) : ansAt zs k ≤ 2 := by
  unfold ansAt
  split
  · omega
  · have := Int.emod_lt_of_pos (zs.getD ((k - 1) % zs.length) 0) (b := 3) (by decide)
    omega

/-- A depth that no node passes. -/
theorem Acyc.bound {n : Nat} {T : Gr} (h : Acyc T) : ∃ (d : Nat → Nat) (D : Nat), (∀ x p, T.par x = some p → d p < d x) ∧ ∀ i, i < n → d i ≤ D := by
  obtain ⟨d, hd⟩ := h
  refine ⟨d, ((List.range n).map d).sum, hd, fun i hi => ?_⟩
  have hm : d i ∈ (List.range n).map d := List.mem_map.2 ⟨i, List.mem_range.2 hi, rfl⟩
  generalize (List.range n).map d = l at hm
  clear hd
  induction l with
  | nil => simp at hm
  | cons a l ih =>
    rcases List.mem_cons.1 hm with e | e
    · simp only [List.sum_cons]; omega
    · have := ih e; simp only [List.sum_cons]; omega
end Go.Proofs.Ytlggpodblabmdaa
