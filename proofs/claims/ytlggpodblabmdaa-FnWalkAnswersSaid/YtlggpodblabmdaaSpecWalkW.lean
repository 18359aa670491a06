/-
  The reference's Walk by a contract, walked; a lemma text, no statement of the seat.
-/
import Derived.Test.YtlggpodblabmdaaSpecWalk
import Derived.Deep.Cut
import Derived.Deep.CutRange
import Derived.Deep.LoopGhost
namespace Go.Proofs.Ytlggpodblabmdaa
open Go.RowKit

theorem Try.info72 : (Try.prog.info? 72).map (fun i => (i.zero, i.size, i.bytes)) = some (some (.agg #[.int .i64 0, .bool false]), 2, 16) := by kernel_rfl

theorem heap_pair (w : World) (o o' : Obj) : ((w.alloc o).alloc o').heap[w.heap.size]? = some o ∧ ((w.alloc o).alloc o').heap[w.heap.size + 1]? = some o' := by
  have e : ((w.alloc o).alloc o').heap = (w.heap.push o).push o' := rfl
  rw [e]
  constructor
  · rw [Array.getElem?_push_lt (by simp)]; simp
  · rw [show w.heap.size + 1 = (w.heap.push o).size by simp, Array.getElem?_push_size]

section
variable {w wx w2 : World} {B b6 b7 : Nat} {ans v v2 : Value} {l : List (Nat × Bool)}
theorem SWIn.push (h : SWIn w B b6 b7 ans l v wx) (h7 : w.heap.size ≤ b7) (h67 : b6 ≠ b7) {x : Nat} {e : Bool} (hown : w2.ownsRow B 72 2 v2 (l.length + 1) (visL l ++ [.int .i64 (x : Int), .bool e]))
    (hg : (wx.alloc (.cells #[.int .i64 (x : Int), .bool e] 72)).grownBy w2 v.ownBlock) :
    SWIn w B b6 b7 ans (l ++ [(x, e)]) v2 (w2.setCell ⟨b7, 0, none⟩ v2) ∧ w2.cell? ⟨b7, 0, none⟩ = some v ∧ w2.frozen? ⟨b7, 0, none⟩ = false := by
  have ht : Tk 72 B wx w2 := ((Tk.refl 72 B wx).alloc _).trans (Tk.grown (h.row.alloc _) hg)
  have h7y := ht.at h.box7 (by decide)
  refine ⟨h.after h7 h67 ht (by rw [visL_snoc]; simpa using hown), block_cell h7y rfl, by simp [World.frozen?, h7y]⟩

theorem SWIn.answer {ao o : Option Addr} {zs : List Int} {zl cap m c : Nat} (h : SWIn w B b6 b7 (.slice ao zl cap) l (.slice o m c) wx) (hzl : zs.length = zl) (hint : IntsB wx B ao zs) (hz : zl ≤ 2147483647) (hm0 : 0 < m) (hm : m ≤ 1000000) :
    Calls Try.prog 32 #[.pointer (some ⟨b6, 0, none⟩), .pointer (some ⟨b7, 0, none⟩)] wx fun e w' => e = .returned (.int .i64 (ansAt zs m)) ∧ ∃ q, w' = wx.drewN q := by
  subst hzl
  exact answer_c (block_cell h.box6 rfl) (block_cell h.box7 rfl) hm0 hm hz hint.at
end

/-- Behind the children, or without them. -/
def SWMid (w : World) (B b6 : Nat) (ans : Value) (T : Gr) (A : Nat → Nat) (f x : Nat) (tl : List (Nat × Bool)) (wx : World) : Prop :=
  ∃ l v, SWIn w B b6 (b6 + 1) ans l v wx ∧ wk T A (f + 1) x tl = wkEnd A x (l, true) ∧ l.length ≤ 100000

/-- At the head of a round over the children: rest are to come. -/
def SWGo (w : World) (B b6 : Nat) (ans : Value) (T : Gr) (A : Nat → Nat) (f x : Nat) (tl : List (Nat × Bool)) (rest : List Nat) (wx : World) : Prop :=
  ∃ l v, SWIn w B b6 (b6 + 1) ans l v wx ∧ wk T A (f + 1) x tl = wkEnd A x (wkl (wk T A f) rest l) ∧ l.length + 2 * (rest.map (sz T f)).sum ≤ 99999

/-- What the reference's Walk leaves. -/
def SWPost (w : World) (B : Nat) (r : List (Nat × Bool) × Bool) (e : Ending) (w' : World) : Prop :=
  ∃ v, e = .returned (.tuple #[v, .bool r.2]) ∧ w'.ownsRow B 72 2 v r.1.length (visL r.1) ∧ Tk 72 B w w'

/-- The contract, as it is owed of each depth. -/
def SWAt (n a pb pc kb kc : Nat) (T : Gr) (K : Nat → Value) (B : Nat) (ao : Option Addr) (zs : List Int) (cap : Nat) (d : Nat → Nat) (D f : Nat) : Prop :=
  ∀ (x : Nat) (tl : List (Nat × Bool)) (tv : Value) (w : World), GR w n a pb pc kb kc T K → IntsB w B ao zs → B ≤ w.heap.size → w.ownsRow B 72 2 tv tl.length (visL tl) → x < n → D < d x + f → tl.length + 2 * sz T f x ≤ 100000 →
    Calls Try.prog 26 #[.pointer (some ⟨a, 0, none⟩), .int .i64 x, .slice ao zs.length cap, tv] w (SWPost w B (wk T (ansAt zs) f x tl))

set_option maxRecDepth 100000 in
set_option maxHeartbeats 1600000 in
theorem specWalk_s {n a pb pc kb kc : Nat} {T : Gr} {K : Nat → Value} {B : Nat} {ao : Option Addr} {zs : List Int} {cap : Nat} {d : Nat → Nat} {D f : Nat} (hwf : WF n T) (hn : n ≤ 1000) (hz : zs.length ≤ 2147483647)
    (hd : ∀ x p, T.par x = some p → d p < d x) (ih : SWAt n a pb pc kb kc T K B ao zs cap d D f) : SWAt n a pb pc kb kc T K B ao zs cap d D (f + 1) := by
  intro x tl tv w hgr hint hB hrow hx hD hlen
  obtain ⟨i0, hi, hz0, hz1, hz2⟩ := info_parts Try.info72
  obtain ⟨zl, hzl⟩ : ∃ zl, zs.length = zl := ⟨_, rfl⟩
  have hmf : ∀ (fn : Fn) (first cap : Array Value) (w : World), (Instr.makeFunc fn first cap).run Try.prog w = .ok (.func fn first cap) w := fun _ _ _ _ => rfl
  have HG := Lib.hid hgr
  have HI := Lib.hid hint
  have HR := Lib.hid hrow
  have HIH := Lib.hid ih
  have HZL := Lib.hid hzl
  have HWF := Lib.hid hwf
  have HD := Lib.hid (And.intro hd hD)
  have HL := Lib.hid hlen
  obtain ⟨tg, tao, tcap, rfl, -, -⟩ := own_shape hrow
  obtain ⟨b6, hb6⟩ : ∃ b6, w.heap.size = b6 := ⟨_, rfl⟩
  obtain ⟨w1, hw1⟩ : ∃ w1, (w.alloc (.cells #[.slice ao zl cap] 38)).alloc (.cells #[.slice tao tl.length tcap] 64) = w1 := ⟨_, rfl⟩
  have h2 := heap_pair w (.cells #[.slice ao zl cap] 38) (.cells #[.slice tao tl.length tcap] 64)
  have HS1 := Lib.hid (show SWIn w B b6 (b6 + 1) (.slice ao zl cap) tl (.slice tao tl.length tcap) w1 from by
    rw [← hw1, ← hb6]
    exact ⟨h2.1, h2.2, (hrow.alloc _).alloc _, ((Tk.refl 72 B w).alloc _).alloc _⟩)
  have HBB := Lib.hid hb6
  have HINT := Lib.hid (show ∀ wx, Tk 72 B w wx → IntsB wx B ao zs from fun wx h => HI.out.below (h.below hB))
  have HGR := Lib.hid (show ∀ wx, Tk 72 B w wx → GR wx n a pb pc kb kc T K from fun wx h => HG.out.tk h (by decide) (by decide) (by decide))
  have hbB : B ≤ b6 := by omega
  have hszl : b6 + 2 ≤ w1.heap.size := by rw [← hw1]; simp; omega
  rw [hzl]
  clear hgr hint hrow ih hzl hwf hd hD hlen h2
  go_enter Try.func26, Try.ntmps26
  go_upto_region 2 with (fail)
  clear hw1 hb6
  have c7 := block_cell HS1.out.box7 (o := 0) rfl
  have z7 : w1.frozen? ⟨b6 + 1, 0, none⟩ = false := by simp [World.frozen?, HS1.out.box7]
  have hown := HS1.out.row
  have htl : tl.length ≤ 100000 := by have := HL.out; omega
  go_wp2_with (at_builtin; refine wpList_append_own _ rfl _ _ 64 rfl B 72 i0 (.agg #[.int .i64 0, .bool false]) 2 16 Try.underlying64 hi hz0 hz1 hz2 rfl (by decide) _ _ _ rfl (hown.alloc _) ⟨w1.heap.size, 0, none⟩ 1 1 [.int .i64 (x : Int), .bool true] rfl rfl ?c1 ?c2 ?c3 ?c4 ?c5 ?_)
  case c1 => exact fun j1 u hu => World.news_of_block (heap_alloc_new w1 (.cells #[.int .i64 (x : Int), .bool true] 72)) j1 u hu
  case c2 => intro u hu; simp at hu; rcases hu with rfl | rfl <;> rfl
  case c3 => unfold maxLen; omega
  case c4 => omega
  case c5 => simp; omega
  intro v2 w2 hown2 hgrow2 _
  obtain ⟨g2, ao2, cap2, rfl, hcap2, -⟩ := own_shape hown2
  obtain ⟨hs3, k7, y7⟩ := HS1.out.push (by have := HBB.out; omega) (by omega) hown2 hgrow2
  have HS3 := Lib.hid hs3
  clear hown2 hgrow2 hown c7 z7 hs3
  go_upto_region 3 with (fail)
  obtain ⟨w3, hw3⟩ : ∃ w3, w2.setCell ⟨b6 + 1, 0, none⟩ (.slice ao2 (tl.length + 1) cap2) = w3 := ⟨_, rfl⟩
  rw [hw3] at HS3 ⊢
  clear hw3 k7 y7
  have hzl2 : zl ≤ 2147483647 := by rw [← HZL.out]; exact hz
  have ca := HS3.out.answer HZL.out (HINT.out w3 HS3.out.tk) hzl2 (by omega) (by omega)
  obtain ⟨A, hA⟩ : ∃ A, ansAt zs (tl.length + 1) = A := ⟨_, rfl⟩
  have hA2 : A ≤ 2 := by rw [← hA]; exact ansAt_le _ _
  rw [hA] at ca
  have HA := Lib.hid hA
  clear hA hz
  go_wp2_with fail
  refine ca.mono ?_
  rintro e w4 ⟨rfl, q, rfl⟩
  have HS4 := Lib.hid (HS3.out.drewN q)
  generalize w3.drewN q = w4 at HS4 ⊢
  clear ca HS3
  by_cases hA2' : A = 2
  · subst hA2'
    have k7 := block_cell HS4.out.box7 (o := 0) rfl
    have HF := Lib.hid (show SWPost w B (wk T (ansAt zs) (f + 1) x tl) (.returned (.tuple #[.slice ao2 (tl.length + 1) cap2, .bool false])) w4 from by
      unfold wk
      rw [if_pos HA.out]
      exact ⟨_, rfl, HS4.out.row, HS4.out.tk⟩)
    clear HS4
    go_wp2_with fail
    go_ret2
    exact HF.out
  have hA1 : A = 0 ∨ A = 1 := by omega
  clear hA2
  have hne : ((A : Int) == 2) = false := by simp; omega
  go_upto_if 27 with (fail)
  obtain ⟨b27, hb27⟩ : ∃ b27, ((A : Int) == 0) = b27 := ⟨_, rfl⟩
  rw [hb27]
  have HB27 := Lib.hid hb27
  clear hb27 hne
  go_cut [13, 14] from 28 to 51 (fun u13 u14 wx => SWMid w B b6 (.slice ao zl cap) T (ansAt zs) f x tl wx)
  case first =>
    rcases hA1 with rfl | rfl
    · obtain rfl : b27 = true := by rw [← HB27.out]; rfl
      have hg4 := HGR.out w4 HS4.out.tk
      have c1 := hg4.c1
      have ck := hg4.kid_at hx
      obtain ⟨kg, ko, kcap, hkv, hkcap, hks⟩ := own_shape (hg4.row x hx)
      obtain ⟨m, hm⟩ : ∃ m, (T.kids x).length = m := ⟨_, rfl⟩
      rw [hkv, hm] at ck
      rw [hm] at hkcap
      have hx0 : (0 : Int) ≤ (x : Int) := Int.natCast_nonneg _
      have hx1 : (x : Int) < (n : Int) := by omega
      have HM := Lib.hid (And.intro hm hkv)
      have hmn : m ≤ n := by rw [← hm]; exact HWF.out.len x
      clear hg4 hkv hm hks
      have HGO := Lib.hid (show SWGo w B b6 (.slice ao zl cap) T (ansAt zs) f x tl ((T.kids x).drop 0) w4 from
        ⟨_, _, HS4.out, by rw [List.drop_zero, wk, if_neg (by rw [HA.out]; decide), if_pos HA.out], by
          have h1 := HL.out
          unfold sz at h1
          rw [List.drop_zero]
          simp only [List.length_append, List.length_cons, List.length_nil]
          omega⟩)
      clear HS4
      go_wp2_with fail
      go_loopg [36] m (fun mm i wx => ∃ j : Nat, j + mm = m ∧ i = .int .i64 j ∧ SWGo w B b6 (.slice ao zl cap) T (ansAt zs) f x tl ((T.kids x).drop j) wx)
      case atStart => exact ⟨0, by omega, rfl, HGO.out⟩
      case round =>
        obtain ⟨j, hj, rfl, l, v, hs, hwk, hle⟩ := hrel
        obtain ⟨vg, vao, vcap, rfl, -, -⟩ := own_shape hs.row
        have HS := Lib.hid hs
        have HWK := Lib.hid hwk
        have HLE := Lib.hid hle
        have hrs := hs.tk.below hB
        have hszr := hrs.size
        clear hs hwk hle hrs HGO c1 ck
        by_cases hjm : j < m
        · obtain ⟨y, hy⟩ : ∃ y, (T.kids x)[j]? = some y := ⟨_, List.getElem?_eq_getElem (by rw [HM.out.1]; exact hjm)⟩
          have hdr : (T.kids x).drop j = y :: (T.kids x).drop (j + 1) := by
            have hjl : j < (T.kids x).length := by rw [HM.out.1]; exact hjm
            rw [List.drop_eq_getElem_cons hjl]
            rw [List.getElem?_eq_getElem hjl] at hy
            rw [Option.some.inj hy]
          have hg5 := HGR.out wr HS.out.tk
          obtain ⟨kg', ko', kcap', hkv', -, hks'⟩ := own_shape (hg5.row x hx)
          rw [HM.out.2, HM.out.1] at hkv'
          rw [HM.out.1] at hks'
          obtain ⟨hko, -, -, hkc⟩ := hks' (by omega)
          cases hkv'
          cases hko
          have hkj : wr.cell? ⟨kg', j, none⟩ = some (.int .i64 (y : Int)) := by rw [hkc j (by omega)]; simp [ints, hy]
          have hyk := (HWF.out.mem x y).1 (List.mem_of_getElem? hy)
          have hyn : y < n := (HWF.out.lt x y hyk).2
          have cc := HIH.out y l (.slice vao l.length vcap) wr hg5 (HINT.out wr HS.out.tk) (by omega) HS.out.row hyn
            (by have := HD.out.1 y x hyk; have := HD.out.2; omega) (by have := HLE.out; rw [hdr] at this; simp only [List.map_cons, List.sum_cons] at this; omega)
          rw [HZL.out] at cc
          have k6 := block_cell HS.out.box6 (o := 0) rfl
          have k7 := block_cell HS.out.box7 (o := 0) rfl
          have HDR := Lib.hid hdr
          clear hg5 hks' hkc hy hyk hdr
          go_wp2_with fail
          refine cc.mono ?_
          clear cc
          rintro e w6 ⟨v6, rfl, hr6, ht6⟩
          have h76 := ht6.at HS.out.box7 (by decide)
          have k7' := block_cell h76 (o := 0) rfl
          have z7' : w6.frozen? ⟨b6 + 1, 0, none⟩ = false := by simp [World.frozen?, h76]
          have HS7 := Lib.hid (HS.out.after (by have := HBB.out; omega) (by omega) ht6 hr6)
          obtain ⟨v6g, v6ao, v6cap, rfl, -, -⟩ := own_shape hr6
          obtain ⟨ok, hok⟩ : ∃ ok, (wk T (ansAt zs) f y l).2 = ok := ⟨_, rfl⟩
          rw [hok]
          have HOK := Lib.hid hok
          clear hr6 ht6 h76 k6 k7 hok
          cases ok with
          | true =>
            have HG7 := Lib.hid (show SWGo w B b6 (.slice ao zl cap) T (ansAt zs) f x tl ((T.kids x).drop (j + 1)) _ from ⟨_, _, HS7.out, by rw [HWK.out, HDR.out, wkl, if_pos HOK.out], by
              have h1 := HLE.out
              have h2 := wk_len T (ansAt zs) f y l
              rw [HDR.out] at h1
              simp only [List.map_cons, List.sum_cons] at h1
              omega⟩)
            clear HS7
            go_wp2_with fail
            go_roundg (m - (j + 1))
            case measure => omega
            case rel => exact ⟨j + 1, by omega, by go_num, HG7.out⟩
          | false =>
            have HF7 := Lib.hid (show SWPost w B (wk T (ansAt zs) (f + 1) x tl) (.returned (.tuple #[.slice v6ao (wk T (ansAt zs) f y l).1.length v6cap, .bool false])) _ from by
              rw [HWK.out, HDR.out, wkl, if_neg (by rw [HOK.out]; decide)]
              exact ⟨_, rfl, HS7.out.row, HS7.out.tk⟩)
            have k8 := block_cell HS7.out.box7 (o := 0) rfl
            clear HS7
            go_wp2_with fail
            go_ret2
            exact HF7.out
        · obtain rfl : j = m := by omega
          have hnil : (T.kids x).drop j = [] := List.drop_eq_nil_of_le (by rw [HM.out.1]; omega)
          have HF := Lib.hid (show SWMid w B b6 (.slice ao zl cap) T (ansAt zs) f x tl wr from ⟨l, _, HS.out, by rw [HWK.out, hnil]; rfl, by have := HLE.out; omega⟩)
          clear HS
          go_wp2_with fail
          go_meet
          case rel => exact HF.out
    · obtain rfl : b27 = false := by rw [← HB27.out]; rfl
      have HF := Lib.hid (show SWMid w B b6 (.slice ao zl cap) T (ansAt zs) f x tl w4 from
        ⟨_, _, HS4.out, by rw [wk, if_neg (by rw [HA.out]; decide), if_neg (by rw [HA.out]; decide)], by simp; have := HL.out; unfold sz at this; omega⟩)
      clear HS4
      go_wp2_with fail
      go_meet
      case rel => exact HF.out
  case rest =>
    obtain ⟨l, v, hs, hwk, hle⟩ := hcut
    obtain ⟨vg, vao, vcap, rfl, -, -⟩ := own_shape hs.row
    have HS := Lib.hid hs
    have HWK := Lib.hid hwk
    have hown := hs.row
    have c7 := block_cell hs.box7 (o := 0) rfl
    have z7 : wc.frozen? ⟨b6 + 1, 0, none⟩ = false := by simp [World.frozen?, hs.box7]
    have hszr := (hs.tk.below hB).size
    clear hs hwk HS4
    go_wp2_with (at_builtin; refine wpList_append_own _ rfl _ _ 64 rfl B 72 i0 (.agg #[.int .i64 0, .bool false]) 2 16 Try.underlying64 hi hz0 hz1 hz2 rfl (by decide) _ _ _ rfl (hown.alloc _) ⟨wc.heap.size, 0, none⟩ 1 1 [.int .i64 (x : Int), .bool false] rfl rfl ?d1 ?d2 ?d3 ?d4 ?d5 ?_)
    case d1 => exact fun j1 u hu => World.news_of_block (heap_alloc_new wc (.cells #[.int .i64 (x : Int), .bool false] 72)) j1 u hu
    case d2 => intro u hu; simp at hu; rcases hu with rfl | rfl <;> rfl
    case d3 => unfold maxLen; omega
    case d4 => omega
    case d5 => simp; omega
    intro v5 w5 hown5 hgrow5 _
    obtain ⟨g5, ao5, cap5, rfl, -, -⟩ := own_shape hown5
    obtain ⟨hs6, k7, y7⟩ := HS.out.push (by have := HBB.out; omega) (by omega) hown5 hgrow5
    have HS6 := Lib.hid hs6
    clear hown5 hgrow5 hown c7 z7 hs6 HS
    go_upto_region 16 with (fail)
    obtain ⟨w6, hw6⟩ : ∃ w6, w5.setCell ⟨b6 + 1, 0, none⟩ (.slice ao5 (l.length + 1) cap5) = w6 := ⟨_, rfl⟩
    rw [hw6] at HS6 ⊢
    clear hw6 k7 y7
    have k8 := block_cell HS6.out.box7 (o := 0) rfl
    go_quiet ((go_at_call 32; exact Calls.quiet_of ((HS6.out.drewN _).answer HZL.out (HINT.out _ (HS6.out.drewN _).tk) hzl2 (by omega) (by omega))))
    have HF := Lib.hid (show SWPost w B (wk T (ansAt zs) (f + 1) x tl) (.returned (.tuple #[.slice ao5 (l.length + 1) cap5, .bool ((ansAt zs (l.length + 1) : Int) != 2)])) (w6.drewN nq) from by
      have hb : ((ansAt zs (l.length + 1) : Int) != 2) = decide (ansAt zs (l.length + 1) ≠ 2) := by
        rw [Bool.eq_iff_iff]; simp; omega
      rw [HWK.out, wkEnd, if_pos rfl, hb]
      exact ⟨_, rfl, by have := (HS6.out.drewN nq).row; simpa using this, (HS6.out.drewN nq).tk⟩)
    clear HS6
    go_wp2_with fail
    go_ret2
    exact HF.out

theorem specWalk_c {n a pb pc kb kc : Nat} {T : Gr} {K : Nat → Value} {B : Nat} {ao : Option Addr} {zs : List Int} {cap : Nat} {d : Nat → Nat} {D : Nat} (hwf : WF n T) (hn : n ≤ 1000) (hz : zs.length ≤ 2147483647)
    (hd : ∀ x p, T.par x = some p → d p < d x) (hD : ∀ i, i < n → d i ≤ D) : ∀ f, SWAt n a pb pc kb kc T K B ao zs cap d D f
  | 0 => fun x _ _ _ _ _ _ _ hx h _ => absurd (hD x hx) (by omega)
  | f + 1 => specWalk_s hwf hn hz hd (specWalk_c hwf hn hz hd hD f)
end Go.Proofs.Ytlggpodblabmdaa
