/-
  The reference's Walk by a contract; a lemma text, no statement of the seat.
-/
import Derived.Test.YtlggpodblabmdaaWalkP
import Derived.Test.YtlggpodblabmdaaGroveSet
import Derived.BigQuiet
import Derived.Deep.QuietTactic
namespace Go.Proofs.Ytlggpodblabmdaa
open Go.RowKit

@[go_sem] theorem callValue_32 (x c : Value) (w : World) : (callValue (.func (.func 32) #[] #[x, c]) #[]).run Try.prog w = .ok (.enter 32 #[x, c]) w := by kernel_rfl

/-- A row of numbers lies at a place. -/
def IntsAt (w : World) (ao : Option Addr) (zs : List Int) : Prop :=
  0 < zs.length → ∃ b off, ao = some ⟨b, off, none⟩ ∧ ∀ j, j < zs.length → w.cell? ⟨b, off + j, none⟩ = some (.int .i64 (zs.getD j 0))

theorem row_apart {w : World} {b e s m b' g : Nat} {t : TypeId} {v : Value} {xs : List Value} {cs : Array Value} {z : Nat × Nat} (h : w.ownsRow b e s v m xs) (hb : w.heap[b']? = some (.cells cs t z)) (he : e ≠ t) (hg : v.ownBlock = some g) : g ≠ b' := fun x => by
  obtain ⟨_, ⟨rfl, _⟩ | ⟨g1, cap, cur, rfl, _, hh, _⟩⟩ := h
  · cases hg
  · obtain rfl : g1 = g := by simpa [Value.ownBlock] using hg
    rw [x, hb] at hh; simp at hh; exact he hh.2.1.symm

theorem mod_q (n : Int) (k : Nat) (hk : 0 < k) (hk2 : k ≤ 1000) (w : World) :
    Calls Try.prog 30 #[.int .i64 n, .int .i64 k] w fun e w' => e = .returned (.int .i64 (n % k)) ∧ w' = w := (mod_c n k hk hk2 w).mono fun _ _ ⟨h, e⟩ => ⟨h, e.symm⟩

set_option maxHeartbeats 400000 in
theorem answer_c {w : World} {b6 b7 : Nat} {ao to : Option Addr} {zs : List Int} {cap m mcap : Nat} (h6 : w.cell? ⟨b6, 0, none⟩ = some (.slice ao zs.length cap)) (h7 : w.cell? ⟨b7, 0, none⟩ = some (.slice to m mcap))
    (hm : 0 < m) (hm2 : m ≤ 1000000) (hz : zs.length ≤ 2147483647) (hzs : IntsAt w ao zs) :
    Calls Try.prog 32 #[.pointer (some ⟨b6, 0, none⟩), .pointer (some ⟨b7, 0, none⟩)] w fun e w' => e = .returned (.int .i64 (ansAt zs m)) ∧ ∃ q, w' = w.drewN q := by
  cases zs with
  | nil =>
    simp only [List.length_nil] at h6
    clear hzs
    go_enter Try.func32, Try.ntmps32
    go_wp2
    go_ret
    exact ⟨rfl, 0, rfl⟩
  | cons z zs =>
    obtain ⟨b, off, rfl, hc⟩ := hzs (by simp)
    obtain ⟨l, hl⟩ : ∃ l, (z :: zs).length = l := ⟨_, rfl⟩
    have hl0 : 0 < l := by rw [← hl]; simp
    have hlt : (m - 1) % l < l := Nat.mod_lt _ hl0
    rw [hl] at h6 hz
    have hcell := hc ((m - 1) % l) (by rw [hl]; exact hlt)
    obtain ⟨i, hi⟩ : ∃ i, (m - 1) % l = i := ⟨_, rfl⟩
    obtain ⟨u, hu⟩ : ∃ u, (z :: zs).getD i 0 = u := ⟨_, rfl⟩
    have hans : ((ansAt (z :: zs) m : Nat) : Int) = u % 3 := by
      have h1 := Int.emod_nonneg u (b := 3) (by decide)
      unfold ansAt
      rw [if_neg (by simp), hl, hi, hu]; omega
    rw [hans]
    rw [hi, hu] at hcell
    have hil : i < l := by rw [← hi]; exact hlt
    have hw1 : IntKind.i64.wrap ((m : Int) - 1) = (m : Int) - 1 := IntWalk.i64_in _ (by omega)
    have hm1 : (0 : Int) ≤ (m : Int) - 1 := by omega
    have hl1 : (0 : Int) < (l : Int) := by omega
    have hl2 : ¬ (l : Int) = 0 := by omega
    have hrem : ((m : Int) - 1).tmod (l : Int) = (i : Int) := by
      rw [Int.tmod_eq_emod_of_nonneg hm1, ← hi]
      have : ((m : Int) - 1) = ((m - 1 : Nat) : Int) := by omega
      rw [this]; rfl
    have hrem2 : ((m : Int) - 1) % (l : Int) = (i : Int) := by
      rw [← hi]
      have : ((m : Int) - 1) = ((m - 1 : Nat) : Int) := by omega
      rw [this]; rfl
    have hi0 : (0 : Int) ≤ (i : Int) := Int.natCast_nonneg _
    have hi1 : (i : Int) < (l : Int) := by omega
    have hll : (l == 0) = false := by simp; omega
    clear hc hl hlt hi hu hans
    go_enter Try.func32, Try.ntmps32
    go_wp2_with fail
    go_quiet ((go_at_call 30; exact Calls.quiet_of_same (mod_q u 3 (by decide) (by decide) _)))
    go_wp2_with fail
    go_ret
    exact ⟨rfl, nq, rfl⟩

/-- Between a and b only rows of visits from B on have turned, and blocks are new. -/
def Tk (t B : Nat) (a b : World) : Prop := Kept (fun k => B ≤ k ∧ ∃ cs z, a.heap[k]? = some (.cells cs t z)) a b

section
variable {t B : Nat} {a b c w w' : World}

theorem Tk.refl (t B : Nat) (a : World) : Tk t B a a := Kept.refl _ a
theorem Tk.trans (h : Tk t B a b) (k : Tk t B b c) : Tk t B a c :=
  ⟨k.os.trans h.os, k.tape.trans h.tape, k.output.trans h.output, Nat.le_trans h.size k.size, fun i hi hs => by
    have e := h.block i hi hs
    refine (k.block i (Nat.lt_of_lt_of_le hi h.size) (fun x => hs ⟨x.1, ?_⟩)).trans e
    rw [← e]; exact x.2⟩
theorem Tk.alloc (h : Tk t B a w) (o : Obj) : Tk t B a (w.alloc o) := Kept.alloc h o
theorem Tk.drewN (h : Tk t B a w) (q : Nat) : Tk t B a (w.drewN q) := Kept.drewN h q
theorem Tk.setCell (h : Tk t B a w) {p : Addr} (hp : a.heap.size ≤ p.block) (u : Value) : Tk t B a (w.setCell p u) := Kept.setCell h (Or.inr hp) u
theorem Tk.grown {s n : Nat} {v : Value} {xs : List Value} (hr : w.ownsRow B t s v n xs) (hg : w.grownBy w' v.ownBlock) : Tk t B w w' :=
  ⟨hg.os, hg.tape, hg.output, hg.size, fun k hk hs => hg.block k hk (fun e => hs (by
    obtain ⟨_, ⟨rfl, _⟩ | ⟨g, cap, cur, rfl, hb, hgg, _⟩⟩ := hr
    · cases e
    · obtain rfl : k = g := by simpa [Value.ownBlock] using e
      exact ⟨hb, cur, _, hgg⟩))⟩
theorem Tk.at (h : Tk t B a b) {k : Nat} {cs : Array Value} {t' : TypeId} {z : Nat × Nat} (hk : a.heap[k]? = some (.cells cs t' z)) (ht : t' ≠ t) : b.heap[k]? = some (.cells cs t' z) := by
  rw [h.block k (lt_of_heap hk) (fun x => by
    obtain ⟨_, cs', z', e⟩ := x
    rw [hk] at e; simp at e; exact ht e.2.1)]
  exact hk
theorem Tk.below (h : Tk t B a b) (hB : B ≤ a.heap.size) : Below B a b := Kept.below h hB (fun k hk x => by omega)
theorem row_not {b0 e s n g : Nat} {v : Value} {xs : List Value} (hr : w.ownsRow b0 e s v n xs) (he : e ≠ t) (hg : v.ownBlock = some g) : ¬ (B ≤ g ∧ ∃ cs z, w.heap[g]? = some (.cells cs t z)) := fun x => by
  obtain ⟨_, cs', z', e'⟩ := x
  obtain ⟨_, ⟨rfl, _⟩ | ⟨g1, cap, cur, rfl, _, hh, _⟩⟩ := hr
  · cases hg
  · obtain rfl : g1 = g := by simpa [Value.ownBlock] using hg
    rw [hh] at e'; simp at e'; exact he e'.2.1
theorem Tk.row (h : Tk t B a b) {b0 e s n : Nat} {v : Value} {xs : List Value} (hr : a.ownsRow b0 e s v n xs) (he : e ≠ t) : b.ownsRow b0 e s v n xs :=
  Kept.row h hr fun _ hg => row_not hr he hg
theorem GR.tk {n ga pb pc kb kc : Nat} {T : Gr} {K : Nat → Value} (h : GR a n ga pb pc kb kc T K) (k : Tk t B a b) (h1 : (41 : Nat) ≠ t) (h2 : (3 : Nat) ≠ t) (h3 : (38 : Nat) ≠ t) : GR b n ga pb pc kb kc T K :=
  GR.kept h k (fun x => by
    obtain ⟨_, cs', z', e⟩ := x
    rw [h.box] at e; simp at e; exact h1 e.2.1) (row_not h.par h2 rfl) (row_not h.kid h3 rfl) (fun i hi g hg => row_not (h.row i hi) h2 hg)
end

/-- A row of numbers that lies below B. -/
def IntsB (w : World) (B : Nat) (ao : Option Addr) (zs : List Int) : Prop :=
  0 < zs.length → ∃ b off, ao = some ⟨b, off, none⟩ ∧ b < B ∧ ∀ j, j < zs.length → w.cell? ⟨b, off + j, none⟩ = some (.int .i64 (zs.getD j 0))

theorem IntsB.at {w : World} {B : Nat} {ao : Option Addr} {zs : List Int} (h : IntsB w B ao zs) : IntsAt w ao zs := fun h0 => by
  obtain ⟨b, off, h1, -, h2⟩ := h h0
  exact ⟨b, off, h1, h2⟩
theorem IntsB.below {w w' : World} {B : Nat} {ao : Option Addr} {zs : List Int} (h : IntsB w B ao zs) (hb : Below B w w') : IntsB w' B ao zs := fun h0 => by
  obtain ⟨b, off, h1, h2, h3⟩ := h h0
  exact ⟨b, off, h1, h2, fun j hj => (hb.cell (p := ⟨b, off + j, none⟩) h2).trans (h3 j hj)⟩

theorem visL_len (l : List (Nat × Bool)) : (visL l).length = l.length * 2 := by
  unfold visL
  induction l with
  | nil => rfl
  | cons v l ih => rw [List.flatMap_cons, List.length_append, ih]; simp; omega
theorem visL_snoc (l : List (Nat × Bool)) (x : Nat) (e : Bool) : visL (l ++ [(x, e)]) = visL l ++ [.int .i64 (x : Int), .bool e] := by simp [visL]

/-- In the middle of the reference's Walk, called at w: the answers' box b6, the visits' box b7, the visits l. -/
structure SWIn (w : World) (B b6 b7 : Nat) (ans : Value) (l : List (Nat × Bool)) (v : Value) (wx : World) : Prop where
  box6 : wx.heap[b6]? = some (.cells #[ans] 38 (0, 0))
  box7 : wx.heap[b7]? = some (.cells #[v] 64 (0, 0))
  row : wx.ownsRow B 72 2 v l.length (visL l)
  tk : Tk 72 B w wx

section
variable {w wx wy : World} {B b6 b7 : Nat} {ans v v' : Value} {l l' : List (Nat × Bool)}
theorem SWIn.drewN (h : SWIn w B b6 b7 ans l v wx) (q : Nat) : SWIn w B b6 b7 ans l v (wx.drewN q) :=
  ⟨h.box6, h.box7, ((Kept.refl (fun _ => False) wx).drewN q).row h.row (fun _ _ => id), h.tk.drewN q⟩
theorem SWIn.after (h : SWIn w B b6 b7 ans l v wx) (h7 : w.heap.size ≤ b7) (h67 : b6 ≠ b7) (ht : Tk 72 B wx wy) (hr : wy.ownsRow B 72 2 v' l'.length (visL l')) : SWIn w B b6 b7 ans l' v' (wy.setCell ⟨b7, 0, none⟩ v') := by
  have h6y := ht.at h.box6 (by decide)
  have h7y := ht.at h.box7 (by decide)
  refine ⟨?_, heap_setCell_eq h7y 0 v', ?_, (h.tk.trans ht).setCell h7 v'⟩
  · rw [Below.heap_setCell _ _ _ _ h67]; exact h6y
  · refine Kept.row (S := fun k => k = b7) ((Kept.refl (fun k => k = b7) wy).setCell (Or.inl rfl) v') hr (fun g hg e => ?_)
    exact row_apart hr h7y (by decide) hg e
end
end Go.Proofs.Ytlggpodblabmdaa
