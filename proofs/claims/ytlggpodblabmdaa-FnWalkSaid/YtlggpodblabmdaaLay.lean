/-
  laws.linksOf by a contract; a lemma text, no statement of the seat.
-/
import Derived.Test.YtlggpodblabmdaaRefl
import Derived.Test.YtlggpodblabmdaaLast
import Derived.Deep.Cut
namespace Go.Proofs.Ytlggpodblabmdaa
open Go.RowKit

/-- So many pieces of seven cells. -/
def flat7 (n : Nat) (C : Nat → List Value) : List Value := (List.range n).flatMap C

theorem flat7_succ (n : Nat) (C : Nat → List Value) : flat7 (n + 1) C = flat7 n C ++ C n := by
  simp [flat7, List.range_succ]
theorem flat7_len {C : Nat → List Value} (hC : ∀ i, (C i).length = 7) : ∀ n, (flat7 n C).length = n * 7
  | 0 => rfl
  | n + 1 => by rw [flat7_succ, List.length_append, flat7_len hC n, hC]; omega
theorem flat7_get {C : Nat → List Value} (hC : ∀ i, (C i).length = 7) : ∀ (n j f : Nat), j < n → f < 7 → (flat7 n C)[j * 7 + f]? = (C j)[f]?
  | 0, _, _, h, _ => by omega
  | n + 1, j, f, h, hf => by
    rw [flat7_succ]
    by_cases e : j < n
    · rw [List.getElem?_append_left (by rw [flat7_len hC]; omega)]; exact flat7_get hC n j f e hf
    · obtain rfl : j = n := by omega
      rw [List.getElem?_append_right (by rw [flat7_len hC]; omega), flat7_len hC]; congr 1; omega
theorem flat7_set {C : Nat → List Value} (hC : ∀ i, (C i).length = 7) {n x f : Nat} (hx : x < n) (hf : f < 7) (u : Value) :
    (flat7 n C).set (x * 7 + f) u = flat7 n (fun i => if i = x then (C i).set f u else C i) := by
  have hC' : ∀ i, ((fun i => if i = x then (C i).set f u else C i) i).length = 7 := fun i => by
    simp only; split <;> simp [hC]
  apply List.ext_getElem?
  intro m
  by_cases hm : m < n * 7
  · have e : m = m / 7 * 7 + m % 7 := by omega
    have hq : m / 7 < n := by omega
    have hr : m % 7 < 7 := by omega
    rw [List.getElem?_set]
    obtain ⟨q, hq'⟩ : ∃ q, m / 7 = q := ⟨_, rfl⟩
    obtain ⟨r, hr'⟩ : ∃ r, m % 7 = r := ⟨_, rfl⟩
    rw [hq'] at e hq
    rw [hr'] at e hr
    subst e
    rw [flat7_get hC' n q r hq hr, flat7_get hC n q r hq hr, flat7_len hC]
    by_cases e1 : q = x
    · subst e1
      rw [if_pos rfl, List.getElem?_set, hC]
      by_cases e2 : f = r
      · subst e2
        have h1 : q * 7 + f < n * 7 := by omega
        simp [h1, hf]
      · rw [if_neg (by omega), if_neg e2]
    · rw [if_neg e1, if_neg (by omega)]
  · rw [List.getElem?_eq_none (by rw [List.length_set, flat7_len hC]; omega), List.getElem?_eq_none (by rw [flat7_len hC']; omega)]

theorem lkCells_len (d : Nd) : (lkCells d).length = 7 := rfl
/-- The rows of G. -/
def lkAll (n : Nat) (G : Nat → Nd) : List Value := flat7 n fun i => lkCells (G i)
theorem lkAll_get {n x f : Nat} {G : Nat → Nd} (hx : x < n) (hf : f < 7) : (lkAll n G)[x * 7 + f]? = (lkCells (G x))[f]? := flat7_get (fun i => lkCells_len (G i)) n x f hx hf
theorem lkAll_set {n x f : Nat} {G : Nat → Nd} (hx : x < n) (hf : f < 7) {u : Value} {G' : Nat → Nd} (h0 : ∀ i, i ≠ x → G' i = G i) (h1 : (lkCells (G x)).set f u = lkCells (G' x)) : (lkAll n G).set (x * 7 + f) u = lkAll n G' := by
  unfold lkAll
  rw [flat7_set (fun i => lkCells_len (G i)) hx hf]
  congr 1
  funext i
  by_cases e : i = x
  · subst e; rw [if_pos rfl, h1]
  · rw [if_neg e, h0 i e]
theorem lkAll_parent {n x : Nat} {G : Nat → Nd} (hx : x < n) (v : Option Nat) : (lkAll n G).set (x * 7) (.int .i64 (pn v)) = lkAll n (s_parent G x v) :=
  lkAll_set (f := 0) hx (by decide) (fun i hi => upd_other _ _ hi) (by simp [lkCells])
theorem lkAll_next {n x : Nat} {G : Nat → Nd} (hx : x < n) (v : Option Nat) : (lkAll n G).set (x * 7 + 3) (.int .i64 (pn v)) = lkAll n (s_next G x v) :=
  lkAll_set hx (by decide) (fun i hi => upd_other _ _ hi) (by simp [lkCells])
theorem lkAll_prev {n x : Nat} {G : Nat → Nd} (hx : x < n) (v : Option Nat) : (lkAll n G).set (x * 7 + 4) (.int .i64 (pn v)) = lkAll n (s_prev G x v) :=
  lkAll_set hx (by decide) (fun i hi => upd_other _ _ hi) (by simp [lkCells])
theorem lkAll_head {n k : Nat} {G : Nat → Nd} (hk : k < n) {ks : List Nat} {f l : Nat} (hf : ks.head? = some f) (hl : ks.getLast? = some l) :
    ((((lkAll n G).set (k * 7 + 1) (.int .i64 (f : Int))).set (k * 7 + 2) (.int .i64 (l : Int))).set (k * 7 + 5) (.int .i64 (ks.length : Int))).set (k * 7 + 6) (.bool true) = lkAll n (layHead G ks k) := by
  have hC : ∀ i, (lkCells (G i)).length = 7 := fun i => lkCells_len _
  unfold lkAll
  rw [flat7_set hC hk (by decide), flat7_set (fun i => by split <;> simp [hC]) hk (by decide), flat7_set (fun i => by (repeat' split) <;> simp [hC]) hk (by decide), flat7_set (fun i => by (repeat' split) <;> simp [hC]) hk (by decide)]
  congr 1
  funext i
  have hne : ks ≠ [] := fun e => by rw [e] at hf; cases hf
  by_cases e : i = k
  · subst e
    simp only [if_true]
    unfold layHead
    rw [if_neg hne]
    simp [lkCells, hf, hl, pn]
  · simp only [e, if_false]
    unfold layHead
    rw [if_neg hne]
    congr 1
    apply Nd.same <;> simp [e]
theorem lkAll_succ (n : Nat) (G : Nat → Nd) : lkAll (n + 1) G = lkAll n G ++ lkCells (G n) := flat7_succ _ _

theorem lay_zero {G : Nat → Nd} {ks : List Nat} {k x : Nat} (hx : ks[0]? = some x) : layN G ks k 1 = s_parent G x (some k) := by
  simp [layN, layAt, hx]
theorem lay_succ {G : Nat → Nd} {ks : List Nat} {k m x p : Nat} (hm : 0 < m) (hx : ks[m]? = some x) (hp : ks[m - 1]? = some p) :
    layN G ks k (m + 1) = s_next (s_prev (s_parent (layN G ks k m) x (some k)) x (some p)) p (some x) := by
  obtain ⟨m, rfl⟩ : ∃ m', m = m' + 1 := ⟨m - 1, by omega⟩
  simp at hp
  rw [layN, layAt, hx]
  simp only [hp]

theorem row_at {w : World} {b e s n g cap i : Nat} {xs : List Value} (h : w.ownsRow b e s (.slice (some ⟨g, 0, none⟩) n cap) n xs) (hi : i < n * s) : ∃ u, w.cell? ⟨g, i, none⟩ = some u := by
  have h1 := h.cellAt i hi
  have h2 := h.1
  rw [List.getElem?_eq_getElem (by omega)] at h1
  exact ⟨_, h1⟩

/-- The row of links in memory. -/
def LR (w0 w : World) (n g cap : Nat) (G : Nat → Nd) : Prop := w.ownsRow w0.heap.size 44 7 (.slice (some ⟨g, 0, none⟩) n cap) n (lkAll n G) ∧ Below w0.heap.size w0 w

section
variable {w0 w : World} {n g cap : Nat} {G : Nat → Nd}
theorem LR.at (h : LR w0 w n g cap G) {x f : Nat} (hx : x < n) (hf : f < 7) : ∃ u, w.cell? ⟨g, x * 7 + f, none⟩ = some u := by
  have := h.1.cellAt (x * 7 + f) (by omega)
  rw [lkAll_get hx hf, List.getElem?_eq_getElem (by rw [lkCells_len]; exact hf)] at this
  exact ⟨_, this⟩
theorem LR.soft (h : LR w0 w n g cap G) (o : Nat) : w.frozen? ⟨g, o, none⟩ = false := h.1.frozenAt o
theorem LR.base (h : LR w0 w n g cap G) : w0.heap.size ≤ g := (h.1.lt g rfl).1
theorem LR.set (h : LR w0 w n g cap G) {o : Nat} {u : Value} {G' : Nat → Nd} (he : (lkAll n G).set o u = lkAll n G') : LR w0 (w.setCell ⟨g, o, none⟩ u) n g cap G' :=
  ⟨by have := (h.1.stored o u).1; rwa [he] at this, h.2.setCell h.base _⟩
end

section
variable {w : World} {n a pb pc kb kc : Nat} {T : Gr} {K : Nat → Value}

set_option maxRecDepth 100000 in
set_option maxHeartbeats 1600000 in
theorem linksOf_c (h : GR w n a pb pc kb kc T K) (hwf : WF n T) (hn0 : 0 < n) (hn : n ≤ 1000) : Calls Try.prog 15 #[.pointer (some ⟨a, 0, none⟩)] w (LinksPost w n (lk T)) := by
  obtain ⟨i0, hi, hz0, hz1, hz2⟩ := info_parts Try.info44
  have c0 := h.c0
  have H := Lib.hid h
  have HWF := Lib.hid hwf
  clear h hwf
  go_enter Try.func15, Try.ntmps15
  go_wp2_with fail
  go_loopw [3, 14] (fun o i wr => ∃ j : Nat, j ≤ n ∧ i = .int .i64 j ∧ wr.ownsRow w.heap.size 44 7 o j (lkAll j fun _ => Nd.new) ∧ Below w.heap.size w wr) (fun _ i _ => n - (intOf i).toNat)
  case atStart => exact ⟨0, Nat.zero_le _, rfl, World.ownsRow_nil _ _ _ _, Below.refl _ _⟩
  case round =>
    obtain ⟨j, hj, rfl, hown, hbw⟩ := hrel
    have hszr := hbw.size
    have HBW := Lib.hid hbw
    clear hbw
    by_cases hjl : j < n
    · go_wp2_with (at_builtin; refine wpList_append_own _ rfl _ _ 31 rfl w.heap.size 44 i0 (.agg #[.int .i64 0, .int .i64 0, .int .i64 0, .int .i64 0, .int .i64 0, .int .i64 0, .bool false]) 7 56 Try.underlying31 hi hz0 hz1 hz2 rfl (by decide) _ _ _ rfl (hown.alloc _) ⟨wr.heap.size, 0, none⟩ 1 1 (lkCells Nd.new) rfl rfl ?c1 ?c2 ?c3 ?c4 ?c5 ?_)
      case c1 => exact fun j1 u hu => World.news_of_block (heap_alloc_new wr (.cells (lkCells Nd.new).toArray 44)) j1 u hu
      case c2 => intro u hu; simp [lkCells] at hu; rcases hu with rfl | rfl | rfl | rfl | rfl | rfl | rfl <;> rfl
      case c3 => unfold maxLen; omega
      case c4 => omega
      case c5 => simp; omega
      · intro v' w1 hown' hgrow _
        have hb1 : Below w.heap.size w w1 := (HBW.out.alloc hszr _).grown hgrow (by simp; omega) (fun b hb' => (hown.lt b hb').1)
        have HN := Lib.hid (And.intro hown' hb1)
        clear hown' hgrow hb1 hown
        go_wp2
        go_roundw
        case rel => exact ⟨j + 1, by omega, by go_num, by rw [lkAll_succ]; exact HN.out.1, HN.out.2⟩
        case measure => simp [intOf]; omega
    · obtain rfl : j = n := by omega
      obtain ⟨g1, ao1, cap1, rfl, hcap1, hs1⟩ := own_shape hown
      obtain ⟨rfl, hg1, hgb, -⟩ := hs1 hn0
      obtain ⟨wo, rfl⟩ : ∃ wo : World, wo = wr := ⟨_, rfl⟩
      have hcc : wo.cell? ⟨a, 1, none⟩ = some (.slice (some ⟨kb, 0, none⟩) j kc) := (HBW.out.cell (p := ⟨a, 1, none⟩) H.out.a_lt).trans H.out.c1
      have HO := Lib.hid hown
      clear hown hs1 c0
      go_wp2_with fail
      go_loopw [26] (fun i wr => ∃ k : Nat, k ≤ j ∧ i = .int .i64 k ∧ wr.ownsRow w.heap.size 44 7 (.slice (some ⟨g1, 0, none⟩) j cap1) j (lkAll j (lays T k)) ∧ Below w.heap.size w wr) (fun i _ => j - (intOf i).toNat)
      case atStart => exact ⟨0, Nat.zero_le _, rfl, HO.out, HBW.out⟩
      case round =>
        obtain ⟨k, hk, rfl, hown, hbr⟩ := hrel
        have HOWN := Lib.hid hown
        have HBR := Lib.hid hbr
        clear hown hbr
        by_cases hkl : k < j
        · have hG := H.out.below HBR.out
          have hck := hG.kid_at hkl
          obtain ⟨ks, hks⟩ : ∃ ks, T.kids k = ks := ⟨_, rfl⟩
          obtain ⟨g, ao, cap, hv, hcap, hs⟩ := own_shape (H.out.row k hkl)
          have hlen := HWF.out.lens hn k
          rw [hks] at hv hcap hs hlen
          rw [hv] at hck
          have HS := Lib.hid hs
          have HKS := Lib.hid hks
          have hk0 : (0 : Int) ≤ (k : Int) := Int.natCast_nonneg _
          have hk1 : (k : Int) < (j : Int) := by omega
          have HL0 := Lib.hid (show LR w wr j g1 cap1 (lays T k) from ⟨HOWN.out, HBR.out⟩)
          obtain ⟨wk, rfl⟩ : ∃ wk : World, wk = wr := ⟨_, rfl⟩
          clear hG hv hs hks HOWN HBR
          go_wp2_with fail
          go_loopw [33] (fun i wr => ∃ m : Nat, m ≤ ks.length ∧ i = .int .i64 m ∧ LR w wr j g1 cap1 (layN (lays T k) ks k m)) (fun i _ => ks.length - (intOf i).toNat)
          case atStart => exact ⟨0, Nat.zero_le _, rfl, HL0.out⟩
          case round =>
            obtain ⟨m, hm, rfl, hl⟩ := hrel
            have HL := Lib.hid hl
            clear hl HL0
            by_cases hml : m < ks.length
            · obtain ⟨rfl, hg, -, hcell⟩ := HS.out (by omega)
              obtain ⟨x, hx⟩ : ∃ x, ks[m]? = some x := ⟨_, List.getElem?_eq_getElem hml⟩
              have hxj : x < j := (HWF.out.lt k x ((HWF.out.mem k x).1 (by rw [HKS.out]; exact List.mem_of_getElem? hx))).2
              have hgg : ∀ (q y : Nat), ks[q]? = some y → w.cell? ⟨g, q, none⟩ = some (.int .i64 (y : Int)) := fun q y hq => by
                have := (List.getElem?_eq_some_iff.1 hq).1
                rw [hcell q (by omega)]; simp [ints, hq]
              have hgx : wr.cell? ⟨g, m, none⟩ = some (.int .i64 (x : Int)) := (HL.out.2.cell (p := ⟨g, m, none⟩) hg).trans (hgg _ _ hx)
              obtain ⟨u0, cu0⟩ := HL.out.at hxj (f := 0) (by decide)
              have z0 := HL.out.soft
              simp only [Nat.add_zero] at cu0
              have hx0 : (0 : Int) ≤ (x : Int) := Int.natCast_nonneg _
              have hx1 : (x : Int) < (j : Int) := by omega
              have HX := Lib.hid hx
              have HGG := Lib.hid hgg
              clear hx hgg hcell
              by_cases hm0 : m = 0
              · subst hm0
                go_wp2_with fail
                go_roundw
                case rel => exact ⟨1, by omega, rfl, by rw [lay_zero HX.out]; exact HL.out.set (lkAll_parent hxj (some k))⟩
                case measure => simp [intOf]; omega
              · obtain ⟨p, hp⟩ : ∃ p, ks[m - 1]? = some p := ⟨_, List.getElem?_eq_getElem (by omega)⟩
                have hpj : p < j := (HWF.out.lt k p ((HWF.out.mem k p).1 (by rw [HKS.out]; exact List.mem_of_getElem? hp))).2
                go_upto_region 13 with (fail)
                have L1 := Lib.hid (HL.out.set (u := .int .i64 k) (lkAll_parent hxj (some k)))
                obtain ⟨w1, hw1⟩ : ∃ w1, wr.setCell ⟨g1, x * 7, none⟩ (.int .i64 k) = w1 := ⟨_, rfl⟩
                rw [hw1] at L1 ⊢
                clear hw1 hgx cu0 z0
                have hgp : w1.cell? ⟨g, m - 1, none⟩ = some (.int .i64 (p : Int)) := (L1.out.2.cell (p := ⟨g, m - 1, none⟩) hg).trans (HGG.out _ _ hp)
                obtain ⟨u4, cu4⟩ := L1.out.at hxj (f := 4) (by decide)
                have z1 := L1.out.soft
                have HP := Lib.hid hp
                have hm1 : (1 : Int) ≤ (m : Int) := by omega
                have hm2 : (0 : Int) < (m : Int) := by omega
                have hp0 : (0 : Int) ≤ (p : Int) := Int.natCast_nonneg _
                have hp1 : (p : Int) < (j : Int) := by omega
                clear hp
                go_upto_region 15 with (fail)
                have L2 := Lib.hid (L1.out.set (u := .int .i64 p) (lkAll_prev hxj (some p)))
                obtain ⟨w2, hw2⟩ : ∃ w2, w1.setCell ⟨g1, x * 7 + 4, none⟩ (.int .i64 p) = w2 := ⟨_, rfl⟩
                rw [hw2] at L2 ⊢
                clear hw2 hgp cu4 z1
                have hgp : w2.cell? ⟨g, m - 1, none⟩ = some (.int .i64 (p : Int)) := (L2.out.2.cell (p := ⟨g, m - 1, none⟩) hg).trans (HGG.out _ _ HP.out)
                obtain ⟨u3, cu3⟩ := L2.out.at hpj (f := 3) (by decide)
                have z2 := L2.out.soft
                go_wp2_with fail
                go_roundw
                case rel => exact ⟨m + 1, by omega, by go_num, by rw [lay_succ (by omega) HX.out HP.out]; exact L2.out.set (lkAll_next hpj (some x))⟩
                case measure => simp [intOf]; omega
            · have hme : m = ks.length := by omega
              rw [hme] at HL ⊢
              clear hme
              by_cases hnil : ks = []
              · have hl0 : ks.length = 0 := by rw [hnil]; rfl
                rw [hl0]
                have HN := Lib.hid hnil
                have H00 := Lib.hid hl0
                clear hnil hl0
                go_wp2_with fail
                go_roundw
                case rel =>
                  refine ⟨k + 1, by omega, by go_num, ?_⟩
                  have e : lays T (k + 1) = layN (lays T k) ks k ks.length := by
                    rw [lays, HKS.out, HN.out]; simp [layHead]
                  rw [e]
                  exact HL.out
                case measure => simp [intOf]; omega
              have hpos : 0 < ks.length := by cases hh : ks with | nil => exact absurd hh hnil | cons => simp
              obtain ⟨rfl, hg, -, hcell⟩ := HS.out hpos
              obtain ⟨f, hf⟩ : ∃ f, ks.head? = some f := by cases hh : ks with | nil => exact absurd hh hnil | cons y l => exact ⟨y, rfl⟩
              obtain ⟨l, hlast⟩ : ∃ l, ks.getLast? = some l := ⟨_, List.getLast?_eq_some_getLast hnil⟩
              have HF := Lib.hid hf
              have HLA := Lib.hid hlast
              have hc0 : ∀ w', Below w.heap.size w w' → w'.cell? ⟨g, 0, none⟩ = some (.int .i64 (f : Int)) := fun w' hb => by
                rw [hb.cell (p := ⟨g, 0, none⟩) hg, hcell 0 (by omega)]
                rw [List.head?_eq_getElem?] at hf
                simp [ints, hf]
              have hcl : ∀ w', Below w.heap.size w w' → w'.cell? ⟨g, ks.length - 1, none⟩ = some (.int .i64 (l : Int)) := fun w' hb => by
                rw [hb.cell (p := ⟨g, ks.length - 1, none⟩) hg, hcell (ks.length - 1) (by omega)]
                rw [List.getLast?_eq_getElem?] at hlast
                simp [ints, hlast]
              obtain ⟨len, hle⟩ : ∃ len, ks.length = len := ⟨_, rfl⟩
              have HLE := Lib.hid hle
              rw [hle] at hpos hlen hcap hcl hml hm ⊢
              rw [hle] at HL
              have HC0 := Lib.hid hc0
              have HCL := Lib.hid hcl
              clear hc0 hcl hle hf hlast hnil hcell hml hm
              have hw1 : IntKind.i64.wrap ((len : Int) - 1) = (len : Int) - 1 := IntWalk.i64_in _ (by omega)
              have hl1 : (0 : Int) ≤ (len : Int) - 1 := by omega
              have hl1' : (1 : Int) ≤ (len : Int) := by omega
              have hl2 : ((len : Int) - 1).toNat = len - 1 := by omega
              have hl3 : (len : Int) - 1 < (len : Int) := by omega
              have hl4 : (0 : Int) < (len : Int) := by omega
              go_wp2_with fail
              obtain ⟨wd, hwd⟩ : ∃ wd, wr.drew = wd := ⟨_, rfl⟩
              refine wp_region_lastD (fun w' => w'.cell? ⟨g, 0, none⟩ = some (.int .i64 (f : Int)) ∧ w'.cell? ⟨g, len - 1, none⟩ = some (.int .i64 (l : Int))) 28 (by kernel_rfl) hwd ?_
              have HB := Lib.hid (show Below w.heap.size w wd from hwd ▸ ⟨HL.out.2.os, HL.out.2.tape, HL.out.2.output, HL.out.2.size, HL.out.2.block⟩)
              have R0 : wd.ownsRow w.heap.size 44 7 (.slice (some ⟨g1, 0, none⟩) j cap1) j (lkAll j (layN (lays T k) ks k len)) := hwd ▸ HL.out.1
              obtain ⟨wa, hwa⟩ : ∃ wa, wd.setCell ⟨g1, k * 7 + 1, none⟩ (.int .i64 (f : Int)) = wa := ⟨_, rfl⟩
              obtain ⟨wb, hwb⟩ : ∃ wb, wa.setCell ⟨g1, k * 7 + 2, none⟩ (.int .i64 (l : Int)) = wb := ⟨_, rfl⟩
              obtain ⟨wc, hwc⟩ : ∃ wc, wb.setCell ⟨g1, k * 7 + 5, none⟩ (.int .i64 (len : Int)) = wc := ⟨_, rfl⟩
              have R1 := (R0.stored (k * 7 + 1) (.int .i64 (f : Int))).1
              rw [hwa] at R1
              have R2 := (R1.stored (k * 7 + 2) (.int .i64 (l : Int))).1
              rw [hwb] at R2
              have R3 := (R2.stored (k * 7 + 5) (.int .i64 (len : Int))).1
              rw [hwc] at R3
              have R4 := (R3.stored (k * 7 + 6) (.bool true)).1
              have hB1 : Below w.heap.size w wa := hwa ▸ HB.out.setCell hgb _
              have hB2 : Below w.heap.size w wb := hwb ▸ hB1.setCell hgb _
              have hB3 : Below w.heap.size w wc := hwc ▸ hB2.setCell hgb _
              obtain ⟨u1, cu1⟩ := row_at R0 (i := k * 7 + 1) (by omega)
              obtain ⟨u2, cu2⟩ := row_at R1 (i := k * 7 + 2) (by omega)
              obtain ⟨u5, cu5⟩ := row_at R2 (i := k * 7 + 5) (by omega)
              obtain ⟨u6, cu6⟩ := row_at R3 (i := k * 7 + 6) (by omega)
              have z1 := R0.frozenAt (k * 7 + 1)
              have z2 := R1.frozenAt (k * 7 + 2)
              have z5 := R2.frozenAt (k * 7 + 5)
              have z6 := R3.frozenAt (k * 7 + 6)
              have HR := Lib.hid (And.intro R4 (hB3.setCell (p := ⟨g1, k * 7 + 6, none⟩) hgb (.bool true)))
              have hS0 : (wd.cell? ⟨g, 0, none⟩ = some (.int .i64 (f : Int)) ∧ wd.cell? ⟨g, len - 1, none⟩ = some (.int .i64 (l : Int))) := ⟨HC0.out _ HB.out, HCL.out _ HB.out⟩
              have hS1 : (wa.cell? ⟨g, 0, none⟩ = some (.int .i64 (f : Int)) ∧ wa.cell? ⟨g, len - 1, none⟩ = some (.int .i64 (l : Int))) := ⟨HC0.out _ hB1, HCL.out _ hB1⟩
              have hS2 : (wb.cell? ⟨g, 0, none⟩ = some (.int .i64 (f : Int)) ∧ wb.cell? ⟨g, len - 1, none⟩ = some (.int .i64 (l : Int))) := ⟨HC0.out _ hB2, HCL.out _ hB2⟩
              have hS3 : (wc.cell? ⟨g, 0, none⟩ = some (.int .i64 (f : Int)) ∧ wc.cell? ⟨g, len - 1, none⟩ = some (.int .i64 (l : Int))) := ⟨HC0.out _ hB3, HCL.out _ hB3⟩
              have HWA := Lib.hid hwa
              have HWB := Lib.hid hwb
              have HWC := Lib.hid hwc
              clear R0 R1 R2 R3 R4 hB1 hB2 hB3 hwd hwa hwb hwc
              refine wpAnyL_takeE (i := 0) 68 rfl rfl (by kernel_rfl) (by kernel_rfl) (by kernel_rfl) (by kernel_rfl) (fun _ _ _ _ h => h) (by rfl) hS0 ?_
              apply Exists.intro
              refine ⟨fun w' hSw => ?_, ?_⟩
              · obtain ⟨s1, s2⟩ := hSw
                go_simp <;> with_reducible rfl
              simp only [List.setIfInBounds_toArray, List.set_cons_zero, List.set_cons_succ]
              refine wpAnyL_takeE (i := 1) 69 rfl rfl (by kernel_rfl) (by kernel_rfl) (by kernel_rfl) (by kernel_rfl) (fun _ _ _ _ h => h) (by rfl) hS0 ?_
              apply Exists.intro
              refine ⟨fun w' hSw => ?_, ?_⟩
              · obtain ⟨s1, s2⟩ := hSw
                go_simp <;> with_reducible rfl
              simp only [List.setIfInBounds_toArray, List.set_cons_zero, List.set_cons_succ]
              refine wpAnyL_takeE (i := 2) 70 rfl rfl (by kernel_rfl) (by kernel_rfl) (by kernel_rfl) (by kernel_rfl) (fun _ _ _ _ h => h) (by rfl) hS0 ?_
              apply Exists.intro
              refine ⟨fun w' hSw => ?_, ?_⟩
              · obtain ⟨s1, s2⟩ := hSw
                go_simp <;> with_reducible rfl
              simp only [List.setIfInBounds_toArray, List.set_cons_zero, List.set_cons_succ]
              refine wpAnyL_takeE (i := 3) 71 rfl rfl (by kernel_rfl) (by kernel_rfl) (by kernel_rfl) (by kernel_rfl) (fun _ _ _ _ h => h) (by rfl) hS0 ?_
              apply Exists.intro
              refine ⟨fun w' hSw => ?_, ?_⟩
              · obtain ⟨s1, s2⟩ := hSw
                go_simp <;> with_reducible rfl
              simp only [List.setIfInBounds_toArray, List.set_cons_zero, List.set_cons_succ]
              refine wpAnyL_takeE (i := 4) 72 rfl rfl (by kernel_rfl) (by kernel_rfl) (by kernel_rfl) (by kernel_rfl) (fun _ _ _ _ h => h) (by rfl) hS0 ?_
              apply Exists.intro
              refine ⟨fun w' hSw => ?_, ?_⟩
              · obtain ⟨s1, s2⟩ := hSw
                go_simp <;> with_reducible rfl
              simp only [List.setIfInBounds_toArray, List.set_cons_zero, List.set_cons_succ]
              refine wpAnyL_takeE (i := 5) 73 rfl rfl (by kernel_rfl) (by kernel_rfl) (by kernel_rfl) (by kernel_rfl) (fun _ _ _ _ h => h) (by rfl) hS0 ?_
              apply Exists.intro
              refine ⟨fun w' hSw => ?_, ?_⟩
              · obtain ⟨s1, s2⟩ := hSw
                go_simp <;> with_reducible rfl
              simp only [List.setIfInBounds_toArray, List.set_cons_zero, List.set_cons_succ]
              refine wpAnyL_takeE (i := 6) 74 rfl rfl (by kernel_rfl) (by kernel_rfl) (by kernel_rfl) (by kernel_rfl) (fun _ _ _ _ h => h) (by rfl) hS0 ?_
              apply Exists.intro
              refine ⟨fun w' hSw => ?_, ?_⟩
              · obtain ⟨s1, s2⟩ := hSw
                go_simp <;> with_reducible rfl
              simp only [List.setIfInBounds_toArray, List.set_cons_zero, List.set_cons_succ]
              refine wpAnyL_takeE (i := 7) 75 rfl rfl (by kernel_rfl) (by kernel_rfl) (by kernel_rfl) (by kernel_rfl) (fun _ _ _ _ h => h) (by rfl) hS0 ?_
              apply Exists.intro
              refine ⟨fun w' hSw => ?_, ?_⟩
              · obtain ⟨s1, s2⟩ := hSw
                go_simp <;> with_reducible rfl
              simp only [List.setIfInBounds_toArray, List.set_cons_zero, List.set_cons_succ]
              refine wpAnyL_takeE (i := 8) 76 rfl rfl (by kernel_rfl) (by kernel_rfl) (by kernel_rfl) (by kernel_rfl) (fun _ _ _ _ h => h) (by rfl) hS0 ?_
              apply Exists.intro
              refine ⟨fun w' hSw => ?_, ?_⟩
              · obtain ⟨s1, s2⟩ := hSw
                go_simp <;> with_reducible rfl
              simp only [List.setIfInBounds_toArray, List.set_cons_zero, List.set_cons_succ]
              refine wpAnyL_takeE (i := 9) 77 rfl rfl (by kernel_rfl) (by kernel_rfl) (by kernel_rfl) (by kernel_rfl) (fun _ _ _ _ h => h) (by rfl) hS0 ?_
              apply Exists.intro
              refine ⟨fun w' hSw => ?_, ?_⟩
              · obtain ⟨s1, s2⟩ := hSw
                go_simp <;> with_reducible rfl
              simp only [List.setIfInBounds_toArray, List.set_cons_zero, List.set_cons_succ]
              refine wpAnyL_takeE (i := 10) 78 rfl rfl (by kernel_rfl) (by kernel_rfl) (by kernel_rfl) (by kernel_rfl) (fun _ _ _ _ h => h) (by rfl) hS0 ?_
              apply Exists.intro
              refine ⟨fun w' hSw => ?_, ?_⟩
              · obtain ⟨s1, s2⟩ := hSw
                go_simp <;> with_reducible rfl
              simp only [List.setIfInBounds_toArray, List.set_cons_zero, List.set_cons_succ]
              refine wpAnyL_takeE (i := 11) 79 rfl rfl (by kernel_rfl) (by kernel_rfl) (by kernel_rfl) (by kernel_rfl) (fun _ _ _ _ h => h) (by rfl) hS0 ?_
              apply Exists.intro
              refine ⟨fun w' hSw => ?_, ?_⟩
              · obtain ⟨s1, s2⟩ := hSw
                go_simp <;> with_reducible rfl
              simp only [List.setIfInBounds_toArray, List.set_cons_zero, List.set_cons_succ]
              refine wpAnyL_takeE (i := 12) 80 rfl rfl (by kernel_rfl) (by kernel_rfl) (by kernel_rfl) (by kernel_rfl) (fun _ _ _ _ h => h) (by rfl) hS0 ?_
              apply Exists.intro
              refine ⟨fun w' hSw => ?_, ?_⟩
              · obtain ⟨s1, s2⟩ := hSw
                go_simp <;> with_reducible rfl
              simp only [List.setIfInBounds_toArray, List.set_cons_zero, List.set_cons_succ]
              refine wpAnyL_takeE (i := 13) 81 rfl rfl (by kernel_rfl) (by kernel_rfl) (by kernel_rfl) (by kernel_rfl) (fun _ _ _ _ h => h) (by rfl) hS0 ?_
              apply Exists.intro
              refine ⟨fun w' hSw => ?_, ?_⟩
              · obtain ⟨s1, s2⟩ := hSw
                go_simp <;> with_reducible rfl
              simp only [List.setIfInBounds_toArray, List.set_cons_zero, List.set_cons_succ]
              refine wpAnyL_takeE (i := 14) 82 rfl rfl (by kernel_rfl) (by kernel_rfl) (by kernel_rfl) (by kernel_rfl) (fun _ _ _ _ h => h) (by rfl) hS0 ?_
              apply Exists.intro
              refine ⟨fun w' hSw => ?_, ?_⟩
              · obtain ⟨s1, s2⟩ := hSw
                go_simp <;> with_reducible rfl
              simp only [List.setIfInBounds_toArray, List.set_cons_zero, List.set_cons_succ]
              refine wpAnyL_takeE (i := 15) 83 rfl rfl (by kernel_rfl) (by kernel_rfl) (by kernel_rfl) (by kernel_rfl) (fun _ _ _ _ h => h) (by rfl) hS0 ?_
              apply Exists.intro
              refine ⟨fun w' hSw => ?_, ?_⟩
              · obtain ⟨s1, s2⟩ := hSw
                go_simp <;> with_reducible rfl
              simp only [List.setIfInBounds_toArray, List.set_cons_zero, List.set_cons_succ]
              refine wpAnyL_takeE (i := 16) 84 rfl rfl (by kernel_rfl) (by kernel_rfl) (by kernel_rfl) (by kernel_rfl) (fun _ _ _ _ h => h) (by rfl) hS0 ?_
              apply Exists.intro
              refine ⟨fun w' hSw => ?_, ?_⟩
              · obtain ⟨s1, s2⟩ := hSw
                go_simp <;> with_reducible rfl
              simp only [List.setIfInBounds_toArray, List.set_cons_zero, List.set_cons_succ]
              refine wpAnyL_takeE (i := 17) 85 rfl rfl (by kernel_rfl) (by kernel_rfl) (by kernel_rfl) (by kernel_rfl) (fun _ _ _ _ h => h) (by rfl) hS0 ?_
              apply Exists.intro
              refine ⟨fun w' hSw => ?_, ?_⟩
              · obtain ⟨s1, s2⟩ := hSw
                go_simp <;> with_reducible rfl
              simp only [List.setIfInBounds_toArray, List.set_cons_zero, List.set_cons_succ]
              refine wpAnyL_takeE (i := 18) 86 rfl rfl (by kernel_rfl) (by kernel_rfl) (by kernel_rfl) (by kernel_rfl) (fun _ _ _ _ h => h) (by rfl) hS0 ?_
              apply Exists.intro
              refine ⟨fun w' hSw => ?_, ?_⟩
              · obtain ⟨s1, s2⟩ := hSw
                go_simp <;> with_reducible rfl
              simp only [List.setIfInBounds_toArray, List.set_cons_zero, List.set_cons_succ]
              refine wpAnyL_one (i := 19) (by kernel_rfl) rfl (fun K1 hK1 => ?_)
              go_simp
              rw [HWA.out]
              refine hK1.out _ wa (fun _ => hS1) ?_
              clear hK1 K1
              try simp only [List.setIfInBounds_toArray, List.set_cons_zero, List.set_cons_succ]
              refine wpAnyL_takeE (i := 20) 87 rfl rfl (by kernel_rfl) (by kernel_rfl) (by kernel_rfl) (by kernel_rfl) (fun _ _ _ _ h => h) (by rfl) hS1 ?_
              apply Exists.intro
              refine ⟨fun w' hSw => ?_, ?_⟩
              · obtain ⟨s1, s2⟩ := hSw
                go_simp <;> with_reducible rfl
              simp only [List.setIfInBounds_toArray, List.set_cons_zero, List.set_cons_succ]
              refine wpAnyL_takeE (i := 21) 88 rfl rfl (by kernel_rfl) (by kernel_rfl) (by kernel_rfl) (by kernel_rfl) (fun _ _ _ _ h => h) (by rfl) hS1 ?_
              apply Exists.intro
              refine ⟨fun w' hSw => ?_, ?_⟩
              · obtain ⟨s1, s2⟩ := hSw
                go_simp <;> with_reducible rfl
              simp only [List.setIfInBounds_toArray, List.set_cons_zero, List.set_cons_succ]
              refine wpAnyL_one (i := 22) (by kernel_rfl) rfl (fun K1 hK1 => ?_)
              go_simp
              rw [HWB.out]
              refine hK1.out _ wb (fun _ => hS2) ?_
              clear hK1 K1
              try simp only [List.setIfInBounds_toArray, List.set_cons_zero, List.set_cons_succ]
              refine wpAnyL_takeE (i := 23) 89 rfl rfl (by kernel_rfl) (by kernel_rfl) (by kernel_rfl) (by kernel_rfl) (fun _ _ _ _ h => h) (by rfl) hS2 ?_
              apply Exists.intro
              refine ⟨fun w' hSw => ?_, ?_⟩
              · obtain ⟨s1, s2⟩ := hSw
                go_simp <;> with_reducible rfl
              simp only [List.setIfInBounds_toArray, List.set_cons_zero, List.set_cons_succ]
              refine wpAnyL_takeE (i := 24) 90 rfl rfl (by kernel_rfl) (by kernel_rfl) (by kernel_rfl) (by kernel_rfl) (fun _ _ _ _ h => h) (by rfl) hS2 ?_
              apply Exists.intro
              refine ⟨fun w' hSw => ?_, ?_⟩
              · obtain ⟨s1, s2⟩ := hSw
                go_simp <;> with_reducible rfl
              simp only [List.setIfInBounds_toArray, List.set_cons_zero, List.set_cons_succ]
              refine wpAnyL_one (i := 25) (by kernel_rfl) rfl (fun K1 hK1 => ?_)
              go_simp
              rw [HWC.out]
              refine hK1.out _ wc (fun _ => hS3) ?_
              clear hK1 K1
              try simp only [List.setIfInBounds_toArray, List.set_cons_zero, List.set_cons_succ]
              refine wpAnyL_oneD (i := 26) 91 (by kernel_rfl) rfl rfl (fun K1 hK1 => ?_)
              go_simp
              refine hK1.out _ _ (fun _ => hS3) ?_
              clear hK1 K1
              try simp only [List.setIfInBounds_toArray, List.set_cons_zero, List.set_cons_succ]
              refine wpAnyL_takeE (i := 27) 92 rfl rfl (by kernel_rfl) (by kernel_rfl) (by kernel_rfl) (by kernel_rfl) (fun _ _ _ _ h => h) (by rfl) hS3 ?_
              apply Exists.intro
              refine ⟨fun w' hSw => ?_, ?_⟩
              · obtain ⟨s1, s2⟩ := hSw
                go_simp <;> with_reducible rfl
              simp only [List.setIfInBounds_toArray, List.set_cons_zero, List.set_cons_succ]
              refine wpAnyL_one (i := 28) (by kernel_rfl) rfl (fun K1 hK1 => ?_)
              go_simp
              refine hK1.out _ _ (fun h => absurd rfl h) ?_
              clear hK1 K1
              refine wpAnyL_done (by kernel_rfl) ?_ _
              clear hw1 hl1 hl1' hl2 hl3 hl4
              go_wp2_with fail
              go_roundw
              case rel =>
                refine ⟨k + 1, by omega, by go_num, ?_⟩
                have e : lays T (k + 1) = layHead (layN (lays T k) ks k len) ks k := by
                  rw [lays, HKS.out, HLE.out]
                rw [e, ← lkAll_head hkl HF.out HLA.out, HLE.out]
                exact HR.out
              case measure => simp [intOf]; omega
        · obtain rfl : k = j := by omega
          go_wp2_with fail
          go_ret
          refine ⟨_, rfl, ?_, HBR.out⟩
          have := HOWN.out
          have e : lkAll k (lays T k) = (List.range k).flatMap fun i => lkCells (lk T i) := by
            unfold lkAll flat7
            rw [List.flatMap_def, List.flatMap_def]
            congr 1
            exact List.map_congr_left fun i hi => by rw [lays_all HWF.out (List.mem_range.1 hi)]
          rwa [e] at this
end
end Go.Proofs.Ytlggpodblabmdaa
