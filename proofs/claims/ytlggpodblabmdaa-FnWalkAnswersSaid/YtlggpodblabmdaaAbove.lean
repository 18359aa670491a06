/-
  The reference's above and New by contracts; a lemma text, no statement of the seat.
-/
import Derived.Test.YtlggpodblabmdaaGrove
namespace Go.Proofs.Ytlggpodblabmdaa
open Go.RowKit

/-- So many steps up from y. -/
def anc (T : Gr) : Nat → Nat → Option Nat
  | 0, y => some y
  | k + 1, y => (T.par y).bind (anc T k)

/-- x is y, or above it. -/
def Ab (T : Gr) (x y : Nat) : Prop := ∃ k, anc T k y = some x

theorem Ab.self (T : Gr) (x : Nat) : Ab T x x := ⟨0, rfl⟩
theorem Ab.up {T : Gr} {x y p : Nat} (hp : T.par y = some p) (h : Ab T x p) : Ab T x y := by
  obtain ⟨k, hk⟩ := h
  exact ⟨k + 1, by simp [anc, hp, hk]⟩
theorem Ab.cases {T : Gr} {x y : Nat} (h : Ab T x y) : x = y ∨ ∃ p, T.par y = some p ∧ Ab T x p := by
  obtain ⟨k, hk⟩ := h
  cases k with
  | zero => left; simpa [anc, eq_comm] using hk
  | succ k =>
    right
    cases hp : T.par y with
    | none => simp [anc, hp] at hk
    | some p => exact ⟨p, rfl, k, by simpa [anc, hp] using hk⟩

/-- A depth of each node. -/
def Acyc (T : Gr) : Prop := ∃ d : Nat → Nat, ∀ x p, T.par x = some p → d p < d x

/-- What above answers. -/
def AboveIs (T : Gr) (x y : Nat) (w : World) (e : Ending) (w' : World) : Prop := ∃ b : Bool, e = .returned (.bool b) ∧ (b = true ↔ Ab T x y) ∧ w = w'

def dep (d : Nat → Nat) : Option Nat → Nat
  | some z => d z + 1
  | none => 0

/-- At a round's head of above: what is asked hangs on the node o alone; so many rounds at most. -/
def Abv (n : Nat) (T : Gr) (d : Nat → Nat) (x y : Nat) (m : Nat) (v : Value) : Prop :=
  ∃ o : Option Nat, v = .int .i64 (pn o) ∧ m = dep d o ∧ (∀ z, o = some z → z < n) ∧ (Ab T x y ↔ ∃ z, o = some z ∧ Ab T x z)

section
variable {w w' : World} {n a pb pc kb kc : Nat} {T : Gr} {K : Nat → Value}

theorem pn_lt {n : Nat} (o : Option Nat) (h : ∀ z, o = some z → z < n) : -1 ≤ pn o ∧ pn o < n := by
  cases o with
  | none => simp [pn]; omega
  | some z => have := h z rfl; simp [pn]; omega

set_option maxHeartbeats 400000 in
theorem above_c (h : GR w n a pb pc kb kc T K) (hw : WF n T) (hac : Acyc T) (x : Nat) {y : Nat} (hy : y < n) :
    Calls Try.prog 31 #[.pointer (some ⟨a, 0, none⟩), .int .i64 x, .int .i64 y] w (AboveIs T x y w) := by
  obtain ⟨d, hd⟩ := hac
  have c0 := h.c0
  have H := Lib.hid h
  have HD := Lib.hid hd
  have H0 : Abv n T d x y (d y + 1) (.int .i64 y) := ⟨some y, rfl, rfl, fun z hz => by cases hz; exact hy, by simp⟩
  clear h hd
  go_enter Try.func31, Try.ntmps31
  go_wp2_with fail
  go_loopg [2] (d y + 1) (fun m v wr => wr = w ∧ Abv n T d x y m v)
  case atStart => exact ⟨rfl, H0⟩
  case round =>
    obtain ⟨hwr, o, rfl, rfl, ho, hq⟩ := hrel
    subst hwr
    have HQ := Lib.hid hq
    clear hq H0
    cases o with
    | none =>
      clear ho
      go_wp2_with fail
      go_ret
      refine ⟨false, rfl, ?_, rfl⟩
      rw [HQ.out]; simp
    | some z =>
      have hz := ho z rfl
      by_cases e : x = z
      · subst e
        have hx0 : (0 : Int) ≤ (x : Int) := Int.natCast_nonneg _
        clear ho
        simp only [pn]
        go_wp2_with fail
        go_ret
        refine ⟨true, rfl, ?_, rfl⟩
        rw [HQ.out]; simp only [true_iff]; exact ⟨x, rfl, Ab.self T x⟩
      · have e1 : ((x : Int) == (z : Int)) = false := beq_eq_false_iff_ne.2 (by omega)
        have HE := Lib.hid e
        have hz0 : (0 : Int) ≤ (z : Int) := Int.natCast_nonneg _
        have hz1 : (z : Int) < (n : Int) := by omega
        have cz := H.out.par_at hz
        obtain ⟨q, hq⟩ : ∃ q, T.par z = q := ⟨_, rfl⟩
        rw [hq] at cz
        obtain ⟨i, hi⟩ : ∃ i, pn q = i := ⟨_, rfl⟩
        rw [hi] at cz
        have HP := Lib.hid hq
        have HI := Lib.hid hi
        clear ho e hq hi
        simp only [pn]
        go_wp2_with fail
        go_roundg (dep d q)
        case measure =>
          cases q with
          | none => simp [dep]
          | some p => have := HD.out z p HP.out; simp [dep]; omega
        case rel =>
          refine ⟨rfl, q, by rw [HI.out], rfl, fun p hp => ?_, ?_⟩
          · rw [hp] at HP; exact (hw.lt p z HP.out).1
          · rw [HQ.out]
            constructor
            · rintro ⟨z', hz', hab⟩
              cases hz'
              rcases hab.cases with hxz | ⟨p, hp, hab⟩
              · exact absurd hxz HE.out
              · exact ⟨p, by rw [← HP.out, hp], hab⟩
            · rintro ⟨p, hp, hab⟩
              exact ⟨z, rfl, Ab.up (by rw [HP.out, hp]) hab⟩

theorem Try.info3 : (Try.prog.info? 3).map (fun i => (i.zero, i.size, i.bytes)) = some (some (.int .i64 0), 1, 8) := by kernel_rfl
theorem Try.info38 : (Try.prog.info? 38).map (fun i => (i.zero, i.size, i.bytes)) = some (some (.slice none 0 0), 1, 24) := by kernel_rfl

/-- A new grove behind a call: nothing that was there has turned. -/
def NewPost (w : World) (n : Nat) (e : Ending) (w' : World) : Prop :=
  ∃ a pb pc kb kc K, e = .returned (.pointer (some ⟨a, 0, none⟩)) ∧ GR w' n a pb pc kb kc Gr.new K ∧ Below w.heap.size w w' ∧ w.heap.size ≤ a ∧ w.heap.size ≤ pb ∧ w.heap.size ≤ kb ∧ (∀ i, i < n → ∀ g, (K i).ownBlock = some g → w.heap.size ≤ g)

/-- At a round's head of New: k parents have been appended. -/
structure Newing (w : World) (n a kb : Nat) (k : Nat) (pv : Value) (wr : World) : Prop where
  box : wr.heap[a]? = some (.cells #[pv, .slice (some ⟨kb, 0, none⟩) n n] 41 (0, 0))
  par : wr.ownsRow w.heap.size 3 1 pv k ((List.range k).map fun _ => .int .i64 (-1))
  kid : wr.ownsRow w.heap.size 38 1 (.slice (some ⟨kb, 0, none⟩) n n) n ((List.range n).map fun _ => .slice none 0 0)
  below : Below w.heap.size w wr
  base : w.heap.size ≤ a

set_option maxHeartbeats 800000 in
theorem new_grove (w : World) (n : Nat) (hn0 : 0 < n) (hn : n ≤ 1000) : Calls Try.prog 11 #[.int .i64 n] w (NewPost w n) := by
  obtain ⟨i3, hi, hz0, hz1, hz2⟩ := info_parts Try.info3
  obtain ⟨i38, ki, kz0, kz1, kz2⟩ := info_parts Try.info38
  go_enter Try.func11, Try.ntmps11
  go_wp2_with (at_make; refine wpList_make_full _ rfl _ _ 39 rfl w.heap.size 38 i38 (.slice none 0 0) 1 Try.underlying39 ki kz0 kz1 .i64 .i64 _ _ n rfl rfl rfl rfl (by rw [kz2]; omega) (by unfold maxLen; omega) (Nat.le_refl _) ?_; intro w1 hown hgrow)
  have hb1 : Below w.heap.size w w1 := (Below.refl _ _).grown hgrow (Nat.le_refl _) (fun k hk => by cases hk)
  have hsz := hb1.size
  have H0 : Newing w n w1.heap.size w.heap.size 0 (.slice none 0 0) (w1.alloc (.cells #[.slice none 0 0, .slice (some ⟨w.heap.size, 0, none⟩) n n] 41)) :=
    ⟨heap_alloc_new w1 _, World.ownsRow_nil _ _ _ _, by
      have : (madeCells (Value.slice none 0 0).cells (n * 1)).toList = (List.range n).map fun _ => Value.slice none 0 0 := by
        apply List.ext_getElem?
        intro i
        simp [madeCells, Value.cells, Nat.mod_one]
      rw [this] at hown
      exact hown.alloc _, hb1.alloc hsz _, hsz⟩
  obtain ⟨a, ha⟩ : ∃ a, w1.heap.size = a := ⟨_, rfl⟩
  rw [ha] at H0 ⊢
  obtain ⟨w2, hw2⟩ : ∃ w2, w1.alloc (.cells #[.slice none 0 0, .slice (some ⟨w.heap.size, 0, none⟩) n n] 41) = w2 := ⟨_, rfl⟩
  rw [hw2] at H0 ⊢
  clear hw2 ha hown hgrow hb1 hsz
  go_loopw [9] (fun i wr => ∃ k pv, k ≤ n ∧ i = .int .i64 k ∧ Newing w n a w.heap.size k pv wr) (fun i _ => n - (intOf i).toNat)
  case atStart => exact ⟨0, _, Nat.zero_le _, rfl, H0⟩
  case round =>
    obtain ⟨k, pv, hk, rfl, hN⟩ := hrel
    have HN := Lib.hid hN
    clear H0
    by_cases hlt : k < n
    · obtain ⟨g, ao, cap, rfl, hcap, hs⟩ := own_shape hN.par
      have hown := hN.par
      have c0 : wr.cell? ⟨a, 0, none⟩ = some (.slice ao k cap) := block_cell hN.box rfl
      have hszr := hN.below.size
      clear hN hs
      go_wp2_with (at_builtin; refine wpList_append_lies _ rfl _ _ 38 rfl w.heap.size 3 i3 (.int .i64 0) 1 8 Try.underlying38 hi hz0 hz1 hz2 rfl (by decide) _ _ _ rfl (hown.alloc _) ⟨wr.heap.size, 0, none⟩ 1 1 [.int .i64 (-1)] rfl rfl ?c1 ?c2 (by decide) ?c3 ?c4 ?c5 _ rfl ?_)
      case c1 => exact fun j1 u hu => World.news_of_block (heap_alloc_new wr (.cells #[.int .i64 (-1)] 3)) j1 u hu
      case c2 => intro u hu; simp at hu; subst hu; rfl
      case c3 => unfold maxLen; omega
      case c4 => omega
      case c5 => simp; omega
      · intro g' cap' w3 hown' hgrow hat hlt'
        have hN := HN.out
        have hna : some a ≠ (Value.slice ao k cap).ownBlock := fun e => by
          obtain ⟨_, ⟨hv, _⟩ | ⟨g1, cap1, cur, hv, _, hg, _⟩⟩ := hN.par
          · rw [hv] at e; cases e
          · rw [hv] at e
            obtain rfl : a = g1 := by simpa [Value.ownBlock] using e
            rw [hN.box] at hg; simp at hg
        have halt : a < wr.heap.size := lt_of_heap hN.box
        have hbox : w3.heap[a]? = some (.cells #[.slice ao k cap, .slice (some ⟨w.heap.size, 0, none⟩) n n] 41 (0, 0)) := by
          rw [hgrow.block a (by simp; omega) hna, Below.heap_alloc _ _ _ halt]; exact hN.box
        have hb3 : Below w.heap.size w w3 := (hN.below.alloc hszr _).grown hgrow (by simp; omega) (fun b hb' => (hown.lt b hb').1)
        have hkid : w3.ownsRow w.heap.size 38 1 (.slice (some ⟨w.heap.size, 0, none⟩) n n) n ((List.range n).map fun _ => .slice none 0 0) :=
          (hN.kid.alloc _).kept hgrow (.inr (fun e => row_types hN.kid hN.par (by decide) rfl (by rw [← e]; rfl)))
        have c3 : w3.cell? ⟨a, 0, none⟩ = some (.slice ao k cap) := block_cell hbox rfl
        have z3 : w3.frozen? ⟨a, 0, none⟩ = false := by simp [World.frozen?, hbox]
        have hne : g' ≠ a := fun e => by
          obtain ⟨_, ⟨hv, _⟩ | ⟨g1, cap1, cur, hv, _, hg, _⟩⟩ := hown'
          · cases hv
          · obtain rfl : g' = g1 := by simpa [Value.ownBlock] using congrArg Value.ownBlock hv
            rw [e, hbox] at hg; simp at hg
        have hbs := hN.base
        have hN' : Newing w n a w.heap.size (k + 1) (.slice (some ⟨g', 0, none⟩) (k + 1) cap') (w3.setCell ⟨a, 0, none⟩ (.slice (some ⟨g', 0, none⟩) (k + 1) cap')) := by
          refine ⟨?_, ?_, ?_, hb3.setCell hbs _, hbs⟩
          · simp [World.setCell, Array.getElem?_modify, hbox]
          · have := ownsRow_setCell_other hown' (a := ⟨a, 0, none⟩) (by simp [Value.ownBlock, hne]) (.slice (some ⟨g', 0, none⟩) (k + 1) cap')
            rw [List.range_succ, List.map_append]; exact this
          · exact ownsRow_setCell_other hkid (a := ⟨a, 0, none⟩) (by
              intro e
              obtain ⟨_, ⟨hv, _⟩ | ⟨g1, cap1, cur, hv, _, hg, _⟩⟩ := hkid
              · cases hv
              · obtain rfl : w.heap.size = g1 := by simpa [Value.ownBlock] using congrArg Value.ownBlock hv
                obtain rfl : w.heap.size = a := by simpa [Value.ownBlock] using e
                rw [hbox] at hg; simp at hg) _
        have HN' := Lib.hid hN'
        clear hN' hN hna halt hbox hb3 hkid hne hown' hgrow hat hown c0 HN
        go_wp2
        go_roundw
        case rel => exact ⟨k + 1, _, by omega, by go_num, HN'.out⟩
        case measure => simp [intOf]; omega
    · obtain rfl : k = n := by omega
      obtain ⟨g, ao, cap, rfl, hcap, hs⟩ := own_shape hN.par
      obtain ⟨rfl, hg, hbg, -⟩ := hs (by omega)
      clear hN
      go_wp2_with fail
      go_ret
      have hN := HN.out
      refine ⟨a, g, cap, w.heap.size, k, fun _ => .slice none 0 0, rfl, ⟨hN.box, ?_, ?_, ?_, ?_⟩, hN.below, hN.base, hbg, Nat.le_refl _, ?_⟩
      · exact ownsRow_base hN.par (Nat.zero_le _)
      · exact ownsRow_base hN.kid (Nat.zero_le _)
      · intro i _; exact World.ownsRow_nil _ _ _ _
      · intro i _ e; cases e
      · intro i _ g' e; cases e
end
end Go.Proofs.Ytlggpodblabmdaa
