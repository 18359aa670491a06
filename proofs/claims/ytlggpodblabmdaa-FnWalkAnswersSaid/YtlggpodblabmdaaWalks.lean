/-
  laws.walks by a contract; a lemma text, no statement of the seat.
-/
import Derived.Test.YtlggpodblabmdaaGrown
import Derived.Test.YtlggpodblabmdaaSpecWalkW
import Derived.Test.YtlggpodblabmdaaImplWalk
namespace Go.Proofs.Ytlggpodblabmdaa
open Go.RowKit

theorem ans_map (zs : List Int) (k : Nat) : ansAt (zs.map fun z => z % 3) k = ansAt zs k := by
  unfold ansAt
  by_cases h : zs = []
  · subst h; rfl
  · have h2 : ¬ zs.map (fun z => z % 3) = [] := by simpa using h
    rw [if_neg h, if_neg h2, List.length_map]
    have hl : (k - 1) % zs.length < zs.length := Nat.mod_lt _ (List.length_pos_iff.2 h)
    rw [List.getD_eq_getElem?_getD, List.getD_eq_getElem?_getD, List.getElem?_map, List.getElem?_eq_getElem hl]
    simp

theorem visL_at : ∀ (l : List (Nat × Bool)) (j : Nat) (x : Nat) (e : Bool), l[j]? = some (x, e) → (visL l)[j * 2]? = some (.int .i64 (x : Int)) ∧ (visL l)[j * 2 + 1]? = some (.bool e)
  | [], _, _, _, h => by simp at h
  | v :: l, 0, x, e, h => by
    simp at h; subst h
    simp [visL]
  | v :: l, j + 1, x, e, h => by
    simp at h
    have ih := visL_at l j x e h
    have h1 : visL (v :: l) = .int .i64 (v.1 : Int) :: .bool v.2 :: visL l := by simp [visL]
    rw [h1, show (j + 1) * 2 = j * 2 + 1 + 1 by omega]
    simpa using ih

set_option maxRecDepth 100000 in
set_option maxHeartbeats 1600000 in
theorem walks_c {W w : World} {n a pb pc kb kc : Nat} {cs : List Ch} {K : Nat → Value} {v : Value} (hs : GrS W n a pb pc kb kc (runs Gr.new cs) cs K v w) (hn : n ≤ 12) (hv : Valids n Gr.new cs) (hlen : cs.length ≤ 2147483647) (hac : Acyc (runs Gr.new cs))
    {x : Nat} (hx : x < n) {zo : Option Addr} {zs : List Int} {zl zcap : Nat} (hzl : zs.length = zl) (hz : zl ≤ 2147483647) (hin : IntsB w w.heap.size zo zs) :
    Calls Try.prog 18 #[.pointer (some ⟨a, 0, none⟩), v, .int .i64 x, .slice zo zl zcap] w fun e w' => e = .returned (.bool true) ∧ Below w.heap.size w w' := by
  obtain ⟨i3, hi, hz0, hz1, hz2⟩ := info_parts Try.info3
  have hwf := valids_wf n cs _ (wf_new n) hv
  obtain ⟨d, D, hd, hD⟩ := hac.bound (n := n)
  have hsz := sz_le hwf hd (D + 1) x hx
  have csw := specWalk_c (a := a) (pb := pb) (pc := pc) (kb := kb) (kc := kc) (K := K) (B := w.heap.size) (ao := zo) (zs := zs) (cap := zcap) (D := D) hwf (by omega) (by omega) hd hD (D + 1) x [] (.slice none 0 0) w hs.gr hin (Nat.le_refl _) (World.ownsRow_nil _ _ _ _) hx (by omega) (by simp; omega)
  rw [hzl] at csw
  obtain ⟨rr, hrr⟩ : ∃ rr, wk (runs Gr.new cs) (ansAt zs) (D + 1) x [] = rr := ⟨_, rfl⟩
  have hrl : rr.1.length ≤ 24 := by
    rw [← hrr]
    have := wk_len (runs Gr.new cs) (ansAt zs) (D + 1) x []
    simp only [List.length_nil] at this
    omega
  rw [hrr] at csw
  have HS := Lib.hid hs
  have HV := Lib.hid hv
  have HD := Lib.hid (And.intro hd hD)
  have HIN := Lib.hid hin
  have HZL := Lib.hid hzl
  have HRR := Lib.hid hrr
  clear hs hv hac hwf hd hD hsz hin hzl hrr
  go_enter Try.func18, Try.ntmps18
  go_wp2_with fail
  refine csw.mono ?_
  rintro e w1 ⟨v9, rfl, hr9, ht9⟩
  have hb1 := ht9.below (Nat.le_refl _)
  have HR9 := Lib.hid hr9
  have HB1 := Lib.hid hb1
  have H1 := Lib.hid (HS.out.over hb1)
  have HIN1 := Lib.hid (HIN.out.below hb1)
  have hsz1 := hb1.size
  clear csw hr9 ht9 hb1
  go_wp2_with fail
  go_loopw [11, 26] (fun o i wr => ∃ j : Nat, j ≤ zl ∧ i = .int .i64 j ∧ wr.ownsRow w1.heap.size 3 1 o j ((zs.take j).map fun z => .int .i64 (z % 3)) ∧ Below w1.heap.size w1 wr) (fun _ i _ => zl - (intOf i).toNat)
  case atStart => exact ⟨0, Nat.zero_le _, rfl, World.ownsRow_nil _ _ _ _, Below.refl _ _⟩
  case round =>
    obtain ⟨j, hj, rfl, hown, hbw⟩ := hrel
    have HBW := Lib.hid hbw
    have hszr := hbw.size
    clear hbw
    by_cases hjl : j < zl
    · obtain ⟨b, off, rfl, hbl, hc⟩ := HIN1.out (by rw [HZL.out]; omega)
      have hcell : wr.cell? ⟨b, off + j, none⟩ = some (.int .i64 (zs.getD j 0)) := by
        rw [HBW.out.cell (p := ⟨b, off + j, none⟩) (by show b < _; omega)]; exact hc j (by rw [HZL.out]; exact hjl)
      obtain ⟨u, hu⟩ : ∃ u, zs.getD j 0 = u := ⟨_, rfl⟩
      rw [hu] at hcell
      have HU := Lib.hid hu
      clear hu hc
      go_wp2_with fail
      refine (place_c u 3 (by decide) (by decide) wr).mono ?_
      rintro e w' ⟨rfl, rfl⟩
      simp only [show (((3 : Nat) : Int)) = 3 from rfl]
      obtain ⟨q, hq⟩ : ∃ q, u % 3 = q := ⟨_, rfl⟩
      rw [hq]
      have HQ := Lib.hid hq
      clear hq hcell
      go_wp2_with (at_builtin; refine wpList_append_own _ rfl _ _ 38 rfl w1.heap.size 3 i3 (.int .i64 0) 1 8 Try.underlying38 hi hz0 hz1 hz2 rfl (by decide) _ _ _ rfl (hown.alloc _) ⟨wr.heap.size, 0, none⟩ 1 1 [.int .i64 q] rfl rfl ?c1 ?c2 ?c3 ?c4 ?c5 ?_)
      case c1 => exact fun j1 u hu => World.news_of_block (heap_alloc_new wr (.cells #[.int .i64 q] 3)) j1 u hu
      case c2 => intro u hu; simp at hu; subst hu; rfl
      case c3 => unfold maxLen; omega
      case c4 => omega
      case c5 => simp; omega
      · intro v' w4 hown' hgrow _
        have hb4 : Below w1.heap.size w1 w4 := (HBW.out.alloc hszr _).grown hgrow (by simp; omega) (fun b hb' => (hown.lt b hb').1)
        have HN := Lib.hid (And.intro (show w4.ownsRow w1.heap.size 3 1 v' (j + 1) ((zs.take (j + 1)).map fun z => .int .i64 (z % 3)) from by
          have hjz : j < zs.length := by rw [HZL.out]; exact hjl
          have h1 : zs[j] = u := by have := HU.out; rwa [List.getD_eq_getElem?_getD, List.getElem?_eq_getElem hjz] at this
          rw [List.take_succ_eq_append_getElem hjz, List.map_append, h1, List.map_singleton, HQ.out]
          simpa [List.map_take] using hown') hb4)
        clear hown' hgrow hb4 hown
        go_wp2
        go_roundw
        case rel => exact ⟨j + 1, by omega, by go_num, HN.out.1, HN.out.2⟩
        case measure => simp [intOf]; omega
    · obtain rfl : j = zl := by omega
      obtain ⟨wo, rfl⟩ : ∃ wo : World, wo = wr := ⟨_, rfl⟩
      obtain ⟨bg, bo, bcap, rfl, hbcap, hbs⟩ := own_shape hown
      have hg1 : (zs.map fun z => z % 3).length = j := by rw [List.length_map, HZL.out]
      have hint : IntsB wo wo.heap.size bo (zs.map fun z => z % 3) := fun h0 => by
        obtain ⟨rfl, hbg, -, hbc⟩ := hbs (by omega)
        refine ⟨bg, 0, rfl, hbg, fun i hi => ?_⟩
        rw [Nat.zero_add, hbc i (by omega), List.take_of_length_le (by rw [HZL.out]; omega), List.getElem?_map, List.getD_eq_getElem?_getD, List.getElem?_map]
        rw [List.length_map] at hi
        rw [List.getElem?_eq_getElem hi]
        rfl
      have H2 := Lib.hid (H1.out.over HBW.out)
      have HR92 := Lib.hid ((Kept.of_below (S := fun _ => False) HBW.out).row HR9.out (fun _ _ => id))
      have ciw := implWalk_c n (by omega) cs v wo (ownsRow_base H2.out.row (Nat.zero_le _)) (by omega) HV.out hx hg1 (by omega) (fun z hz => by
        obtain ⟨y, -, rfl⟩ := List.mem_map.1 hz
        exact ⟨Int.emod_nonneg _ (by decide), Int.emod_lt_of_pos _ (by decide)⟩) hint (cap := bcap) (d := d) (D := D) (f := D + 1) HD.out.1 HD.out.2 (by omega)
      have e1 : ansAt (zs.map fun z => z % 3) = ansAt zs := funext (ans_map zs)
      rw [e1, HRR.out] at ciw
      have c0 := H2.out.gr.c0
      clear hown hbs hint hg1 e1
      go_wp2_with fail
      refine ciw.mono ?_
      rintro e w3 ⟨v14, rfl, hr14, hb3⟩
      have HR14 := Lib.hid hr14
      have HR93 := Lib.hid ((Kept.of_below (S := fun _ => False) hb3).row HR92.out (fun _ _ => id))
      have HBL := Lib.hid (HB1.out.trans ((HBW.out.trans (hb3.mono hszr)).mono hsz1))
      obtain ⟨g14, o14, cap14, rfl, hcap14, hs14⟩ := own_shape hr14
      obtain ⟨g9, o9, cap9, rfl, hcap9, hs9⟩ := own_shape HR93.out
      obtain ⟨m, hm⟩ : ∃ m, rr.1.length = m := ⟨_, rfl⟩
      rw [hm] at hcap14 hs14 hcap9 hs9 hrl ⊢
      have HM := Lib.hid hm
      have HS14 := Lib.hid hs14
      have HS9 := Lib.hid hs9
      clear ciw hr14 hb3 hs14 hs9 hm c0
      go_wp2_with fail
      go_loopw [59] (fun i wr => ∃ k : Nat, k ≤ m ∧ i = .int .i64 k ∧ Below w3.heap.size w3 wr) (fun i _ => m - (intOf i).toNat)
      case atStart => exact ⟨0, Nat.zero_le _, rfl, Below.refl _ _⟩
      case round =>
        obtain ⟨k, hk, rfl, hb⟩ := hrel
        by_cases hlt : k < m
        · obtain ⟨rfl, hg14, -, hl14⟩ := HS14.out (by omega)
          obtain ⟨rfl, hg9, -, hl9⟩ := HS9.out (by omega)
          obtain ⟨⟨y, b⟩, hyb⟩ : ∃ u, rr.1[k]? = some u := ⟨_, List.getElem?_eq_getElem (by rw [HM.out]; exact hlt)⟩
          obtain ⟨f0, f1⟩ := visL_at rr.1 k y b hyb
          have a0 : wr.cell? ⟨g14, k * 2, none⟩ = some (.int .i64 (y : Int)) := by
            rw [hb.cell (p := ⟨g14, k * 2, none⟩) hg14, hl14 _ (by omega)]; exact f0
          have a1 : wr.cell? ⟨g14, k * 2 + 1, none⟩ = some (.bool b) := by
            rw [hb.cell (p := ⟨g14, k * 2 + 1, none⟩) hg14, hl14 _ (by omega)]; exact f1
          have d0 : wr.cell? ⟨g9, k * 2, none⟩ = some (.int .i64 (y : Int)) := by
            rw [hb.cell (p := ⟨g9, k * 2, none⟩) hg9, hl9 _ (by omega)]; exact f0
          have d1 : wr.cell? ⟨g9, k * 2 + 1, none⟩ = some (.bool b) := by
            rw [hb.cell (p := ⟨g9, k * 2 + 1, none⟩) hg9, hl9 _ (by omega)]; exact f1
          have hi0 : (0 : Int) ≤ (k : Int) := Int.natCast_nonneg _
          have hi1 : (k : Int) < (m : Int) := by omega
          have HB := Lib.hid hb
          clear hyb f0 f1 hl14 hl9 hg14 hg9 hb
          go_wp2_with fail
          go_quiet (fail)
          go_wp2_with fail
          go_roundw
          case rel => exact ⟨k + 1, by omega, by go_num, HB.out.trans ⟨rfl, rfl, rfl, Nat.le_refl _, fun _ _ => rfl⟩⟩
          case measure => simp [intOf]; omega
        · have HB := Lib.hid (show Below w.heap.size w wr from HBL.out.trans (hb.mono HBL.out.size))
          clear hb
          go_wp2_with fail
          go_ret
          exact ⟨rfl, HB.out⟩
end Go.Proofs.Ytlggpodblabmdaa
