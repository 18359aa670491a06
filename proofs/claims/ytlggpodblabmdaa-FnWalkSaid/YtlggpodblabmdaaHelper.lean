/-
  What goldmark's walk does to a tree, by a contract; a lemma text, no statement of the seat.
-/
import Derived.Test.YtlggpodblabmdaaCallback
import Derived.Test.YtlggpodblabmdaaSortP
import Derived.Deep.Cut
import Derived.Deep.CutRange
import Derived.Deep.LoopGhost
namespace Go.Proofs.Ytlggpodblabmdaa
open Go.RowKit

section
variable (w : World)
@[go_sem ↓] theorem neq_nil84 : (binOp .neq 84 .nilIface .nilIface).run Try.prog w = .ok (.bool false) w := by kernel_rfl
@[go_sem ↓] theorem eql_nil84 : (binOp .eql 84 .nilIface .nilIface).run Try.prog w = .ok (.bool true) w := by kernel_rfl
end

/-- What walkHelper leaves. -/
def WHPost (N : Nat → Nat) (n : Nat) (T : Gr) (B bo bm br r : Nat) (ao : Option Addr) (gs : List Int) (gl cap : Nat) (w : World) (rr : List (Nat × Bool) × Bool) (e : Ending) (w' : World) : Prop :=
  e = .returned (.tuple #[.int .i64 (if rr.2 = true then 3 else 1), .nilIface]) ∧ ∃ v', CB N n (lk T) B bo bm br r ao gs gl cap rr.1 v' w' ∧ Below B w w'

/-- The contract, as it is owed of each depth. -/
def WHAt (N : Nat → Nat) (n : Nat) (T : Gr) (B bo bm br r : Nat) (ao : Option Addr) (gs : List Int) (gl cap : Nat) (d : Nat → Nat) (D f : Nat) : Prop :=
  ∀ (x : Nat) (l : List (Nat × Bool)) (v : Value) (w : World), CB N n (lk T) B bo bm br r ao gs gl cap l v w → x < n → D < d x + f → l.length + 2 * sz T f x ≤ 100000 →
    Calls Try.prog 35 #[.iface 77 (.pointer (some ⟨N x, 0, none⟩)), .func (.func 34) #[] #[.pointer (some ⟨bo, 0, none⟩), .pointer (some ⟨bm, 0, none⟩), .pointer (some ⟨br, 0, none⟩)]] w
      (WHPost N n T B bo bm br r ao gs gl cap w (wk T (ansAt gs) f x l))

/-- Behind the children, or without them. -/
def WHMid (N : Nat → Nat) (n : Nat) (T : Gr) (B bo bm br r : Nat) (ao : Option Addr) (gs : List Int) (gl cap : Nat) (w : World) (f x : Nat) (l0 : List (Nat × Bool)) (wx : World) : Prop :=
  ∃ l v, CB N n (lk T) B bo bm br r ao gs gl cap l v wx ∧ Below B w wx ∧ wk T (ansAt gs) (f + 1) x l0 = wkEnd (ansAt gs) x (l, true) ∧ l.length ≤ 100000

/-- At the head of a round over the children: rest are to come. -/
def WHGo (N : Nat → Nat) (n : Nat) (T : Gr) (B bo bm br r : Nat) (ao : Option Addr) (gs : List Int) (gl cap : Nat) (w : World) (f x : Nat) (l0 : List (Nat × Bool)) (m : Nat) (c : Value) (wx : World) : Prop :=
  ∃ rest l v, rest.length = m ∧ c = nv N rest.head? ∧ Seg n (lk T) rest.head? rest ∧ (∀ y ∈ rest, T.par y = some x) ∧ CB N n (lk T) B bo bm br r ao gs gl cap l v wx ∧ Below B w wx ∧
    wk T (ansAt gs) (f + 1) x l0 = wkEnd (ansAt gs) x (wkl (wk T (ansAt gs) f) rest l) ∧ l.length + 2 * (rest.map (sz T f)).sum ≤ 99999

theorem stOf_cases (a : Nat) (h : a ≤ 2) (h2 : a ≠ 2) : ((stOf a == 1) = false) ∧ (a = 0 → (stOf a != 2) = true) ∧ (a = 1 → (stOf a != 2) = false) := by
  rcases (show a = 0 ∨ a = 1 by omega) with rfl | rfl <;> simp [stOf]

set_option maxRecDepth 100000 in
set_option maxHeartbeats 1600000 in
theorem helper_s {N : Nat → Nat} {n : Nat} {T : Gr} {B bo bm br r : Nat} {ao : Option Addr} {gs : List Int} {gl cap : Nat} {d : Nat → Nat} {D f : Nat} (hwf : WF n T) (hgl : gl ≤ 2147483647) (hg3 : ∀ z ∈ gs, 0 ≤ z ∧ z < 3)
    (hd : ∀ x p, T.par x = some p → d p < d x) (ih : WHAt N n T B bo bm br r ao gs gl cap d D f) : WHAt N n T B bo bm br r ao gs gl cap d D (f + 1) := by
  intro x l0 v w hcb hx hD hlen
  have hl0 : l0.length ≤ 100000 := by omega
  have cb := callback_c hcb hx true hl0 hgl hg3
  have HIH := Lib.hid ih
  have HWF := Lib.hid hwf
  have HD := Lib.hid (And.intro hd hD)
  have HL := Lib.hid hlen
  have HG3 := Lib.hid hg3
  obtain ⟨A, hA⟩ : ∃ A, ansAt gs (l0.length + 1) = A := ⟨_, rfl⟩
  have hA2 : A ≤ 2 := by rw [← hA]; exact ansAt_le _ _
  rw [hA] at cb
  have HA := Lib.hid hA
  clear hcb ih hwf hd hD hlen hg3 hA
  by_cases hA2' : A = 2
  · subst hA2'
    rw [show stOf 2 = 1 from rfl] at cb
    go_enter Try.func35, Try.ntmps35
    go_wp2_with fail
    refine cb.mono ?_
    rintro e w1 ⟨rfl, v1, hc1, hb1⟩
    have HF := Lib.hid (show WHPost N n T B bo bm br r ao gs gl cap w (wk T (ansAt gs) (f + 1) x l0) (.returned (.tuple #[.int .i64 1, .nilIface])) w1 from by
      rw [wk, if_pos HA.out]
      exact ⟨rfl, v1, hc1, hb1⟩)
    clear cb hc1 hb1
    go_wp2_with fail
    go_ret2
    exact HF.out
  have hsc := stOf_cases A hA2 hA2'
  obtain ⟨st, hst⟩ : ∃ st, stOf A = st := ⟨_, rfl⟩
  rw [hst] at cb hsc
  have hs1 := hsc.1
  obtain ⟨b26, hb26⟩ : ∃ b26, (st != 2) = b26 := ⟨_, rfl⟩
  have HSC := Lib.hid hsc
  have HB26 := Lib.hid hb26
  have HA2 := Lib.hid (show A = 0 ∨ A = 1 from by omega)
  clear hsc hst hA2 hA2' hb26
  go_enter Try.func35, Try.ntmps35
  go_wp2_with fail
  refine cb.mono ?_
  rintro e w1 ⟨rfl, v1, hc1, hb1⟩
  have HC1 := Lib.hid (And.intro hc1 hb1)
  clear cb hc1 hb1
  go_upto_if 26 with (fail)
  rw [HB26.out]
  go_cut [8, 9, 10] from 27 to 45 (fun u8 u9 u10 wx => WHMid N n T B bo bm br r ao gs gl cap w f x l0 wx)
  case first =>
    rcases HA2.out with rfl | rfl
    · obtain rfl : b26 = true := by rw [← HB26.out]; exact HSC.out.2.1 rfl
      have cf := get_first HC1.out.1.rep hx (v := nv N (T.kids x).head?) rfl
      have HGO := Lib.hid (show WHGo N n T B bo bm br r ao gs gl cap w f x l0 (T.kids x).length (nv N (T.kids x).head?) w1 from
        ⟨T.kids x, _, v1, rfl, rfl, seg_lk HWF.out x, fun y hy => (HWF.out.mem x y).1 hy, HC1.out.1, HC1.out.2, by rw [wk, if_neg (by rw [HA.out]; decide), if_pos HA.out], by
          have h1 := HL.out
          unfold sz at h1
          simp only [List.length_append, List.length_cons, List.length_nil]
          omega⟩)
      obtain ⟨hv, hhv⟩ : ∃ hv, nv N (T.kids x).head? = hv := ⟨_, rfl⟩
      rw [hhv] at cf HGO
      clear HC1 hhv
      go_wp2_with fail
      refine cf.mono ?_
      rintro e w' ⟨rfl, rfl⟩
      clear cf
      go_wp2_with fail
      go_loopg [8] (T.kids x).length (fun m c wx => WHGo N n T B bo bm br r ao gs gl cap w f x l0 m c wx)
      case atStart => exact HGO.out
      case round =>
        obtain ⟨rest, l, v, hm, rfl, hseg, hpar, hc, hb, hwk, hle⟩ := hrel
        have HC := Lib.hid (And.intro hc hb)
        have HW := Lib.hid (And.intro hwk (And.intro hle hpar))
        have HM := Lib.hid hm
        clear HGO hc hb hwk hle hm hpar
        cases rest with
        | nil =>
          have HF := Lib.hid (show WHMid N n T B bo bm br r ao gs gl cap w f x l0 wr from ⟨l, v, HC.out.1, HC.out.2, HW.out.1, by have := HW.out.2.1; simp at this; omega⟩)
          clear HC hseg
          simp only [List.head?_nil, nv_none]
          go_wp2_with fail
          go_meet
          case rel => exact HF.out
        | cons y rest =>
          obtain ⟨-, hyn, hseg⟩ := hseg
          have HSEG := Lib.hid hseg
          clear hseg
          simp only [List.head?_cons, nv_some]
          have hle := HW.out.2.1
          simp only [List.map_cons, List.sum_cons] at hle
          have hyx := HW.out.2.2 y (.head _)
          have cc := HIH.out y l v wr HC.out.1 hyn (by have := HD.out.1 y x hyx; have := HD.out.2; omega) (by omega)
          clear hle hyx
          obtain ⟨ok, hok⟩ : ∃ ok, (wk T (ansAt gs) f y l).2 = ok := ⟨_, rfl⟩
          cases ok with
          | true =>
            have HOK := Lib.hid hok
            have cc' := Calls.mono cc (R' := fun e w' => e = .returned (.tuple #[.int .i64 3, .nilIface]) ∧ ∃ v', CB N n (lk T) B bo bm br r ao gs gl cap (wk T (ansAt gs) f y l).1 v' w' ∧ Below B wr w') (fun e w' h => ⟨by rw [h.1, HOK.out]; rfl, h.2⟩)
            clear cc hok
            go_wp2_with fail
            refine cc'.mono ?_
            rintro e w6 ⟨rfl, v6, hc6, hb6⟩
            have HC6 := Lib.hid (And.intro hc6 (HC.out.2.trans hb6))
            have cn := get_next hc6.rep hyn (v := nv N rest.head?) (by rw [HSEG.out.head])
            have HG6 := Lib.hid (show WHGo N n T B bo bm br r ao gs gl cap w f x l0 rest.length (nv N rest.head?) w6 from ⟨rest, _, v6, rfl, rfl, HSEG.out.head ▸ HSEG.out, fun u hu => HW.out.2.2 u (.tail _ hu), HC6.out.1, HC6.out.2, by rw [HW.out.1, wkl, if_pos HOK.out], by
              have h1 := HW.out.2.1
              have h2 := wk_len T (ansAt gs) f y l
              simp only [List.map_cons, List.sum_cons] at h1
              omega⟩)
            clear cc' hc6 hb6 HC HC6
            go_wp2_with fail
            refine cn.mono ?_
            rintro e w' ⟨rfl, rfl⟩
            clear cn
            go_wp2_with fail
            go_roundg rest.length
            case measure => rw [← HM.out]; simp
            case rel => exact HG6.out
          | false =>
            have HOK := Lib.hid hok
            have cc' := Calls.mono cc (R' := fun e w' => e = .returned (.tuple #[.int .i64 1, .nilIface]) ∧ ∃ v', CB N n (lk T) B bo bm br r ao gs gl cap (wk T (ansAt gs) f y l).1 v' w' ∧ Below B wr w') (fun e w' h => ⟨by rw [h.1, HOK.out]; rfl, h.2⟩)
            clear cc hok
            go_wp2_with fail
            refine cc'.mono ?_
            rintro e w6 ⟨rfl, v6, hc6, hb6⟩
            have HF := Lib.hid (show WHPost N n T B bo bm br r ao gs gl cap w (wk T (ansAt gs) (f + 1) x l0) (.returned (.tuple #[.int .i64 1, .nilIface])) w6 from by
              rw [HW.out.1, wkl, if_neg (by rw [HOK.out]; decide)]
              exact ⟨rfl, v6, hc6, HC.out.2.trans hb6⟩)
            clear cc' hc6 hb6 HC
            go_wp2_with fail
            go_ret2
            exact HF.out
    · obtain rfl : b26 = false := by rw [← HB26.out]; exact HSC.out.2.2 rfl
      have HF := Lib.hid (show WHMid N n T B bo bm br r ao gs gl cap w f x l0 w1 from
        ⟨_, v1, HC1.out.1, HC1.out.2, by rw [wk, if_neg (by rw [HA.out]; decide), if_neg (by rw [HA.out]; decide)], by simp; have := HL.out; unfold sz at this; omega⟩)
      clear HC1
      go_wp2_with fail
      go_meet
      case rel => exact HF.out
  case rest =>
    obtain ⟨l, v, hc, hb, hwk, hle⟩ := hcut
    have HC := Lib.hid (And.intro hc hb)
    have HWK := Lib.hid hwk
    have ce := callback_c hc hx false hle hgl HG3.out
    obtain ⟨E, hE⟩ : ∃ E, ansAt gs (l.length + 1) = E := ⟨_, rfl⟩
    have hE2 : E ≤ 2 := by rw [← hE]; exact ansAt_le _ _
    rw [hE] at ce
    have HE := Lib.hid hE
    clear hc hb hwk hle hE HC1 hs1
    by_cases hE2' : E = 2
    · subst hE2'
      rw [show stOf 2 = 1 from rfl] at ce
      go_wp2_with fail
      refine ce.mono ?_
      rintro e w7 ⟨rfl, v7, hc7, hb7⟩
      have HF := Lib.hid (show WHPost N n T B bo bm br r ao gs gl cap w (wk T (ansAt gs) (f + 1) x l0) (.returned (.tuple #[.int .i64 1, .nilIface])) w7 from by
        rw [HWK.out, wkEnd, if_pos rfl, HE.out]
        exact ⟨rfl, v7, hc7, HC.out.2.trans hb7⟩)
      clear ce hc7 hb7 HC
      go_wp2_with fail
      go_ret2
      exact HF.out
    · have hse := (stOf_cases E hE2 hE2').1
      obtain ⟨se, hse'⟩ : ∃ se, stOf E = se := ⟨_, rfl⟩
      rw [hse'] at ce hse
      have HE2 := Lib.hid hE2'
      clear hse' hE2 hE2'
      go_wp2_with fail
      refine ce.mono ?_
      rintro e w7 ⟨rfl, v7, hc7, hb7⟩
      have HF := Lib.hid (show WHPost N n T B bo bm br r ao gs gl cap w (wk T (ansAt gs) (f + 1) x l0) (.returned (.tuple #[.int .i64 3, .nilIface])) w7 from by
        rw [HWK.out, wkEnd, if_pos rfl, HE.out]
        refine ⟨?_, v7, hc7, HC.out.2.trans hb7⟩
        simp only [show decide (E ≠ 2) = true from by simpa using HE2.out, if_true])
      clear ce hc7 hb7 HC
      go_wp2_with fail
      go_ret2
      exact HF.out

theorem helper_c {N : Nat → Nat} {n : Nat} {T : Gr} {B bo bm br r : Nat} {ao : Option Addr} {gs : List Int} {gl cap : Nat} {d : Nat → Nat} {D : Nat} (hwf : WF n T) (hgl : gl ≤ 2147483647) (hg3 : ∀ z ∈ gs, 0 ≤ z ∧ z < 3)
    (hd : ∀ x p, T.par x = some p → d p < d x) (hD : ∀ i, i < n → d i ≤ D) : ∀ f, WHAt N n T B bo bm br r ao gs gl cap d D f
  | 0 => fun x _ _ _ _ hx h _ => absurd (hD x hx) (by omega)
  | f + 1 => helper_s hwf hgl hg3 hd (helper_c hwf hgl hg3 hd hD f)
end Go.Proofs.Ytlggpodblabmdaa
