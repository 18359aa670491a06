/-
  The walk of laws.FnSorted; a lemma text, no statement of the seat.
-/
import Derived.Test.YtlggpodblabmdaaGrown
import Derived.Test.YtlggpodblabmdaaSortedW
import Derived.Test.YtlggpodblabmdaaSeen
namespace Go.Proofs.Ytlggpodblabmdaa
open Go.RowKit

theorem not_before : ∀ (l : List Nat) (k x : Nat), l.Nodup → l[k]? = some x → x ∉ l.take k
  | [], _, _, _, h => by simp at h
  | y :: l, 0, _, _, _ => by simp
  | y :: l, k + 1, x, hn, h => by
    have hc := List.nodup_cons.1 hn
    simp only [List.getElem?_cons_succ] at h
    simp only [List.take_succ_cons, List.mem_cons, not_or]
    exact ⟨fun e => hc.1 (by rw [← e]; exact List.mem_of_getElem? h), not_before l k x hc.2 h⟩

theorem sorted_at {r : Nat → Nat} {l : List Nat} (h : SortedBy r l) {i k x y : Nat} (hik : i < k) (hy : l[i]? = some y) (hx : l[k]? = some x) : r y ≤ r x := by
  obtain ⟨hi, rfl⟩ := List.getElem?_eq_some_iff.1 hy
  obtain ⟨hk, rfl⟩ := List.getElem?_eq_some_iff.1 hx
  exact List.pairwise_iff_getElem.1 h i k hi hk hik

/-- Of one child. -/
theorem one_c {w : World} {b1 b2 : Nat} (h1 : w.heap[b1]? = some (.cells #[.int .i64 0, .int .i64 0, .int .i64 0, .int .i64 1] 29 (0, 0))) (h2 : w.heap[b2]? = some (.cells #[.int .i64 0, .int .i64 0] 3 (0, 0))) :
    Calls Try.prog 17 #[.int .i64 2, .slice (some ⟨b1, 0, none⟩) 1 1, .int .i64 0, .slice (some ⟨b2, 0, none⟩) 2 2] w
      fun e w' => ∃ g cap, e = .returned (.slice (some ⟨g, 0, none⟩) 1 cap) ∧ 1 ≤ cap ∧ w'.cell? ⟨g, 0, none⟩ = some (.int .i64 1) ∧ Below w.heap.size w w' := by
  have hc := sorted_c 2 (by decide) [⟨0, 0, 0, 1⟩] (.slice (some ⟨b1, 0, none⟩) 1 1) w
    ⟨rfl, .inr ⟨b1, 1, #[.int .i64 0, .int .i64 0, .int .i64 0, .int .i64 1], rfl, Nat.zero_le _, h1, Nat.le_refl _, by unfold maxLen; omega, rfl, rfl⟩⟩ (by simp)
    ⟨⟨by simp, by simp, by simp, by simp, fun h => absurd h (by simp), fun h => absurd h (by simp)⟩, trivial⟩ (p := 0) (by decide) (g := b2) (cap := 2) (rk := fun _ => 0)
    ⟨rfl, .inr ⟨b2, 2, #[.int .i64 0, .int .i64 0], rfl, Nat.zero_le _, h2, Nat.le_refl _, by unfold maxLen; omega, rfl, rfl⟩⟩ (fun _ _ => by decide)
  refine Calls.mono hc ?_
  rintro e w' ⟨v, ss, rfl, hr, hp, -, hb⟩
  have hk : (runs Gr.new [⟨0, 0, 0, 1⟩]).kids 0 = [1] := rfl
  rw [hk] at hp
  obtain rfl : ss = [1] := List.perm_singleton.1 hp
  obtain ⟨g, ao, cap, rfl, hcap, hs⟩ := own_shape hr
  obtain ⟨rfl, -, -, hc⟩ := hs (by decide)
  exact ⟨g, cap, rfl, hcap, hc 0 (by decide), hb⟩

set_option maxRecDepth 100000 in
set_option maxHeartbeats 1600000 in
theorem sortlaw_w (many : Int) (ao : Option Addr) (len cap : Nat) (p0 : Int) (zo : Option Addr) (zs : List Int) (zcap : Nat) (W : World) (hin : Came W ao len) (hzs : CameInts W zo zs) :
    Calls Try.prog 7 #[.int .i64 many, .slice ao len cap, .int .i64 p0, .slice zo zs.length zcap] W fun e w' => e = .returned (.bool true) ∧ Below W.heap.size W w' := by
  obtain ⟨zl, hzl⟩ : ∃ zl, zs.length = zl := ⟨_, rfl⟩
  rw [hzl]
  by_cases hbig : 2147483647 < len
  · have hb : (2147483647 : Int) < (len : Int) := by omega
    clear hin hzs hzl
    go_enter Try.func7, Try.ntmps7
    go_wp2
    go_ret
    exact ⟨rfl, Below.refl _ _⟩
  have hlen : len ≤ 2147483647 := by omega
  have hb : (len : Int) ≤ 2147483647 := by omega
  by_cases hbig2 : 2147483647 < zl
  · have hb2 : (2147483647 : Int) < (zl : Int) := by omega
    clear hin hzs hzl hbig
    go_enter Try.func7, Try.ntmps7
    go_wp2
    go_ret
    exact ⟨rfl, Below.refl _ _⟩
  have hzlen : zl ≤ 2147483647 := by omega
  have hb2 : (zl : Int) ≤ 2147483647 := by omega
  have c := grown_c W many ao len cap true hlen hin
  obtain ⟨n, hn⟩ : ∃ n, (many % 12).toNat + 1 = n := ⟨_, rfl⟩
  have hn12 : n ≤ 12 := by
    have := Int.emod_lt_of_pos many (b := 12) (by decide)
    omega
  have hn0 : 0 < n := by omega
  rw [hn] at c
  obtain ⟨p, hp, hpn⟩ : ∃ x : Nat, p0 % n = x ∧ x < n := by
    have h1 := Int.emod_nonneg p0 (b := (n : Int)) (by omega)
    have h2 := Int.emod_lt_of_pos p0 (b := (n : Int)) (by omega)
    exact ⟨(p0 % n).toNat, by omega, by omega⟩
  have HP := Lib.hid hp
  have HZ := Lib.hid hzs
  have HZL := Lib.hid hzl
  clear hin hbig hbig2 hn hp hzs hzl
  obtain ⟨i3, hi, hz0, hz1, hz2⟩ := info_parts Try.info3
  go_enter Try.func7, Try.ntmps7
  go_wp2_with fail
  ((with_reducible refine c.mono ?_))
  rintro e w1 ⟨a, pb, pc, kb, kc, T, cs, K, v, rfl, hs, rfl, hv, hl, hac⟩
  have c0 := hs.gr.c0
  have hn1 : (n : Int) ≤ 12 := by omega
  have hn01 : (1 : Int) ≤ (n : Int) := by omega
  have HV := Lib.hid hv
  have H1 := Lib.hid hs
  have HWF := Lib.hid (valids_wf n cs _ (wf_new n) hv)
  clear hac c hv hs
  go_wp2_with fail
  ((with_reducible refine (place_c p0 n hn0 (by omega) w1).mono ?_))
  rintro e w' ⟨rfl, rfl⟩
  simp only [HP.out]
  clear c0
  go_wp2_with fail
  have hsz := H1.out.below.size
  have HZ1 := Lib.hid (show ∀ w', Below w1.heap.size w1 w' → ∀ j, j < zl → ∃ b off, zo = some ⟨b, off, none⟩ ∧ w'.cell? ⟨b, off + j, none⟩ = some (.int .i64 (zs.getD j 0)) from fun w' hb j hj => by
    obtain ⟨b, off, rfl, hbl, hc⟩ := HZ.out (by rw [HZL.out]; omega)
    refine ⟨b, off, rfl, ?_⟩
    rw [hb.cell (p := ⟨b, off + j, none⟩) (by show b < _; omega), H1.out.below.cell (p := ⟨b, off + j, none⟩) hbl]
    exact hc j (by rw [HZL.out]; exact hj))
  go_loopw [12, 43] (fun o i wr => ∃ j : Nat, j ≤ n ∧ i = .int .i64 j ∧ wr.ownsRow w1.heap.size 3 1 o j ((List.range j).map fun i => .int .i64 (rkOf zs i : Int)) ∧ Below w1.heap.size w1 wr) (fun _ i _ => n - (intOf i).toNat)
  case atStart => exact ⟨0, Nat.zero_le _, rfl, World.ownsRow_nil _ _ _ _, Below.refl _ _⟩
  case round =>
    obtain ⟨j, hj, rfl, hown, hbw⟩ := hrel
    have HBW := Lib.hid hbw
    have hszr := hbw.size
    clear hbw
    by_cases hjl : j < n
    · by_cases hz0' : zl = 0
      · have hzle : (zl : Int) ≤ 0 := by omega
        have hrk : (0 : Int) = (rkOf zs j : Int) := by
          unfold rkOf; rw [if_pos (List.length_eq_zero_iff.1 (HZL.out.trans hz0'))]; rfl
        have HRK := Lib.hid hrk
        clear hrk hz0'
        go_wp2_with (at_builtin; refine wpList_append_own _ rfl _ _ 38 rfl w1.heap.size 3 i3 (.int .i64 0) 1 8 Try.underlying38 hi hz0 hz1 hz2 rfl (by decide) _ _ _ rfl (hown.alloc _) ⟨wr.heap.size, 0, none⟩ 1 1 [.int .i64 0] rfl rfl ?c1 ?c2 ?c3 ?c4 ?c5 ?_)
        case c1 => exact fun j1 u hu => World.news_of_block (heap_alloc_new wr (.cells #[.int .i64 0] 3)) j1 u hu
        case c2 => intro u hu; simp at hu; subst hu; rfl
        case c3 => unfold maxLen; omega
        case c4 => omega
        case c5 => simp; omega
        · intro v' w4 hown' hgrow _
          have hb4 : Below w1.heap.size w1 w4 := (HBW.out.alloc hszr _).grown hgrow (by simp; omega) (fun b hb' => (hown.lt b hb').1)
          have HN := Lib.hid (And.intro (show w4.ownsRow w1.heap.size 3 1 v' (j + 1) ((List.range (j + 1)).map fun i => .int .i64 (rkOf zs i : Int)) from by rw [List.range_succ, List.map_append]; simpa [← HRK.out] using hown') hb4)
          clear hown' hgrow hb4 hown
          go_wp2
          go_roundw
          case rel => exact ⟨j + 1, by omega, by go_num, HN.out.1, HN.out.2⟩
          case measure => simp [intOf]; omega
      · obtain ⟨m, hm⟩ : ∃ m, j % zl = m := ⟨_, rfl⟩
        have hml : m < zl := by rw [← hm]; exact Nat.mod_lt _ (by omega)
        obtain ⟨b, off, rfl, hcz⟩ := HZ1.out wr HBW.out m hml
        obtain ⟨u, hu⟩ : ∃ u, zs.getD m 0 = u := ⟨_, rfl⟩
        rw [hu] at hcz
        have hrk : (u % 100) = (rkOf zs j : Int) := by
          have h1 := Int.emod_nonneg u (b := 100) (by decide)
          unfold rkOf; rw [if_neg (fun e => hz0' (by rw [← HZL.out, e]; rfl)), HZL.out, hm, hu]; omega
        have HRK := Lib.hid hrk
        have hjm : (j : Int) % (zl : Int) = (m : Int) := by rw [← hm]; rfl
        have hm0 : (0 : Int) ≤ (m : Int) := Int.natCast_nonneg _
        have hm1 : (m : Int) < (zl : Int) := by omega
        have hz1' : (0 : Int) < (zl : Int) := by omega
        have hj0 : (0 : Int) ≤ (j : Int) := Int.natCast_nonneg _
        clear hrk hm hu hz0'
        go_wp2_with fail
        refine (place_c u 100 (by decide) (by decide) wr).mono ?_
        rintro e w' ⟨rfl, rfl⟩
        simp only [show (((100 : Nat) : Int)) = 100 from rfl, HRK.out]
        obtain ⟨q, hq⟩ : ∃ q, (rkOf zs j : Int) = q := ⟨_, rfl⟩
        rw [hq]
        have HQ := Lib.hid hq
        clear hq hcz
        go_wp2_with (at_builtin; refine wpList_append_own _ rfl _ _ 38 rfl w1.heap.size 3 i3 (.int .i64 0) 1 8 Try.underlying38 hi hz0 hz1 hz2 rfl (by decide) _ _ _ rfl (hown.alloc _) ⟨wr.heap.size, 0, none⟩ 1 1 [.int .i64 q] rfl rfl ?c1 ?c2 ?c3 ?c4 ?c5 ?_)
        case c1 => exact fun j1 u hu => World.news_of_block (heap_alloc_new wr (.cells #[.int .i64 q] 3)) j1 u hu
        case c2 => intro u hu; simp at hu; subst hu; rfl
        case c3 => unfold maxLen; omega
        case c4 => omega
        case c5 => simp; omega
        · intro v' w4 hown' hgrow _
          have hb4 : Below w1.heap.size w1 w4 := (HBW.out.alloc hszr _).grown hgrow (by simp; omega) (fun b hb' => (hown.lt b hb').1)
          have HN := Lib.hid (And.intro (show w4.ownsRow w1.heap.size 3 1 v' (j + 1) ((List.range (j + 1)).map fun i => .int .i64 (rkOf zs i : Int)) from by rw [List.range_succ, List.map_append]; simpa [← HQ.out] using hown') hb4)
          clear hown' hgrow hb4 hown
          go_wp2
          go_roundw
          case rel => exact ⟨j + 1, by omega, by go_num, HN.out.1, HN.out.2⟩
          case measure => simp [intOf]; omega
    · obtain rfl : j = n := by omega
      obtain ⟨wo, rfl⟩ : ∃ wo : World, wo = wr := ⟨_, rfl⟩
      obtain ⟨bg, bo, bcap, rfl, hbcap, hbs⟩ := own_shape hown
      obtain ⟨rfl, hbg, -, hbc⟩ := hbs hn0
      have HOWN := Lib.hid hown
      have HBC := Lib.hid hbc
      have H2 := Lib.hid (H1.out.over HBW.out)
      have cso := sorted_c j (by omega) cs v wo (ownsRow_base H2.out.row (Nat.zero_le _)) (by omega) HV.out hpn (ownsRow_base hown (Nat.zero_le _)) (fun i _ => rkOf_lt zs i)
      clear hown hbs hbc
      go_wp2_with fail
      refine cso.mono ?_
      rintro e w3 ⟨v3, ss, rfl, hr3, hperm, hso, hb3⟩
      clear cso
      have HR3 := Lib.hid hr3
      have HPS := Lib.hid (And.intro hperm hso)
      have H3 := Lib.hid (H2.out.over hb3)
      have HOW3 := Lib.hid ((Kept.of_below (S := fun _ => False) hb3).row HOWN.out (fun _ _ => id))
      obtain ⟨g3, o3, cap3, rfl, hcap3, hs3⟩ := own_shape hr3
      have HS3 := Lib.hid hs3
      have c1 := H3.out.gr.c1
      have ck := H3.out.gr.kid_at hpn
      obtain ⟨kg, ko, kcap, hkv, hkcap, -⟩ := own_shape (H3.out.gr.row p hpn)
      obtain ⟨m, hm⟩ : ∃ m, ((runs Gr.new cs).kids p).length = m := ⟨_, rfl⟩
      have hssm : ss.length = m := by rw [← hm]; exact hperm.length_eq
      rw [hkv, hm] at ck
      have HM := Lib.hid (And.intro hm hssm)
      rw [hssm] at hcap3 ⊢
      have hp0 : (0 : Int) ≤ (p : Int) := Int.natCast_nonneg _
      have hp1 : (p : Int) < (j : Int) := by omega
      have hmm := @run_makeMap Try.prog
      have hmn : m ≤ j := by rw [← hm]; exact HWF.out.len p
      clear hr3 hperm hso hb3 hs3 hkv hkcap hm hssm
      go_wp2_with fail
      obtain ⟨wm, hwm⟩ : ∃ wm, w3.alloc (.map #[] 0) = wm := ⟨_, rfl⟩
      have HSE0 := Lib.hid (show SeenIs wm w3.heap.size [] from by rw [← hwm]; exact heap_alloc_new w3 _)
      have hbm : Below w3.heap.size w3 wm := by rw [← hwm]; exact (Below.refl _ _).alloc (Nat.le_refl _) _
      rw [hwm]
      have H4 := Lib.hid (H3.out.over hbm)
      have HR4 := Lib.hid ((Kept.of_below (S := fun _ => False) hbm).row HR3.out (fun _ _ => id))
      have HOW4 := Lib.hid ((Kept.of_below (S := fun _ => False) hbm).row HOW3.out (fun _ _ => id))
      obtain ⟨r, hr⟩ : ∃ r, w3.heap.size = r := ⟨_, rfl⟩
      have HLT := Lib.hid (And.intro (hr ▸ H3.out.gr.a_lt) (And.intro (hr ▸ H3.out.gr.pb_lt) (And.intro (hr ▸ (HOW3.out.lt bg rfl).2) (fun g hg => hr ▸ (HR3.out.lt g hg).2))))
      have HSZ := Lib.hid (show W.heap.size ≤ r from hr ▸ H3.out.below.size)
      rw [hr] at HSE0 ⊢
      clear hwm hbm hr c1 ck
      go_loopw [81] (fun i wr => ∃ k : Nat, k ≤ m ∧ i = .int .i64 k ∧ SeenIs wr r (ss.take k) ∧ Kept (fun b => b = r) wm wr) (fun i _ => m - (intOf i).toNat)
      case atStart => exact ⟨0, Nat.zero_le _, rfl, by simpa using HSE0.out, Kept.refl _ _⟩
      case round =>
        obtain ⟨k, hk, rfl, hse, hkp⟩ := hrel
        have HSE := Lib.hid hse
        have HKP := Lib.hid hkp
        clear hse hkp HSE0
        by_cases hkm : k < m
        · obtain ⟨rfl, hgl, -, hcs⟩ := HS3.out (by rw [HM.out.2]; omega)
          obtain ⟨x, hx⟩ : ∃ x, ss[k]? = some x := ⟨_, List.getElem?_eq_getElem (by rw [HM.out.2]; exact hkm)⟩
          have hss : ∀ (i y : Nat), ss[i]? = some y → wr.cell? ⟨g3, i, none⟩ = some (.int .i64 (y : Int)) := fun i y hy => by
            have hil := (List.getElem?_eq_some_iff.1 hy).1
            have h1 := HR4.out.cellAt i (by omega)
            refine HKP.out.cell (h1.trans (by simp [ints, hy])) ?_
            have := HLT.out.2.2.2 g3 rfl
            show ¬ g3 = r
            omega
          have hxm : x ∈ (runs Gr.new cs).kids p := HPS.out.1.mem_iff.1 (List.mem_of_getElem? hx)
          have hxp : (runs Gr.new cs).par x = some p := (HWF.out.mem p x).1 hxm
          have hxn : x < j := (HWF.out.lt p x hxp).2
          have hnd : ss.Nodup := HPS.out.1.nodup_iff.2 (HWF.out.nd p)
          have hnx : x ∉ ss.take k := not_before ss k x hnd hx
          have hrk : ∀ y, y < j → wr.cell? ⟨bg, y, none⟩ = some (.int .i64 (rkOf zs y : Int)) := fun y hy => by
            have h1 := HOW4.out.cellAt y (by omega)
            refine HKP.out.cell (h1.trans (by simp [hy])) ?_
            have := HLT.out.2.2.1
            show ¬ bg = r
            omega
          have c0 := HKP.out.cell H4.out.gr.c0 (by have := HLT.out.1; show ¬ a = r; omega)
          have cp := HKP.out.cell (H4.out.gr.par_at hxn) (by have := HLT.out.2.1; show ¬ pb = r; omega)
          rw [hxp] at cp
          simp only [pn] at cp
          have cx := hss k x hx
          have crx := hrk x hxn
          have hx0 : (0 : Int) ≤ (x : Int) := Int.natCast_nonneg _
          have hx1 : (x : Int) < (j : Int) := by omega
          have lkx : ∀ q, (Instr.lookup 47 (.map (some r)) (.int .i64 (x : Int)) false).run Try.prog (wr.drewN q) = .ok (.bool false) (wr.drewN q) := fun q => seen_look HSE.out hnx
          have HX := Lib.hid (And.intro hx hnx)
          obtain ⟨qx, hqx⟩ : ∃ qx, (rkOf zs x : Int) = qx := ⟨_, rfl⟩
          rw [hqx] at crx
          by_cases hk0 : k = 0
          · have hk0' : ¬ (0 : Int) < (k : Int) := by omega
            have hk0'' : decide ((0 : Int) < (k : Int)) = false := by simp; omega
            have hk0n : decide (0 < k) = false := by simp; omega
            clear hk0 hqx hrk hss hcs hgl hnd hxm hxp hx hnx
            go_wp2_with fail
            refine wp_region_quiet_lit (by kernel_rfl) (by kernel_rfl) ?_
            iterate 42 (first | go_big_quiet_step (fail) | quiet_step (fail))
            refine wpQuiet_nil ?_
            rintro wz ⟨nq, rfl⟩
            obtain ⟨w5, hrun, hs5, hk5⟩ := seen_store (w := wr.drewN nq) HSE.out HX.out.2
            have HF := Lib.hid (show SeenIs w5 r (ss.take (k + 1)) ∧ Kept (fun b => b = r) wm w5 from ⟨by rw [List.take_add_one, HX.out.1]; simpa using hs5, (HKP.out.drewN nq).trans hk5⟩)
            clear hs5 hk5
            go_wp2_with fail
            go_roundw
            case rel => exact ⟨k + 1, by omega, by go_num, HF.out.1, HF.out.2⟩
            case measure => simp [intOf]; omega
          · obtain ⟨y, hy⟩ : ∃ y, ss[k - 1]? = some y := ⟨_, List.getElem?_eq_getElem (by rw [HM.out.2]; omega)⟩
            have hym : y ∈ (runs Gr.new cs).kids p := HPS.out.1.mem_iff.1 (List.mem_of_getElem? hy)
            have hyn : y < j := (HWF.out.lt p y ((HWF.out.mem p y).1 hym)).2
            have cy := hss (k - 1) y hy
            have cry := hrk y hyn
            have hle : rkOf zs y ≤ rkOf zs x := sorted_at HPS.out.2 (show k - 1 < k by omega) hy hx
            obtain ⟨qy, hqy⟩ : ∃ qy, (rkOf zs y : Int) = qy := ⟨_, rfl⟩
            rw [hqy] at cry
            have hqq : qy ≤ qx := by omega
            have hqd : decide (qx < qy) = false := by simp; omega
            have hk0n : decide (0 < k) = true := by simp; omega
            have hw1 : IntKind.i64.wrap ((k : Int) - 1) = (k : Int) - 1 := IntWalk.i64_in _ (by omega)
            have hkm0 : (0 : Int) ≤ (k : Int) - 1 := by omega
            have hkm1 : (k : Int) - 1 < (m : Int) := by omega
            have hkt : ((k : Int) - 1).toNat = k - 1 := by omega
            have hy0 : (0 : Int) ≤ (y : Int) := Int.natCast_nonneg _
            have hy1 : (y : Int) < (j : Int) := by omega
            clear hk0 hqx hqy hrk hss hcs hgl hnd hxm hxp hx hnx hym hy hle
            go_wp2_with fail
            refine wp_region_quiet_lit (by kernel_rfl) (by kernel_rfl) ?_
            iterate 42 (first | go_big_quiet_step (fail) | quiet_step (fail))
            refine wpQuiet_nil ?_
            rintro wz ⟨nq, rfl⟩
            obtain ⟨w5, hrun, hs5, hk5⟩ := seen_store (w := wr.drewN nq) HSE.out HX.out.2
            have HF := Lib.hid (show SeenIs w5 r (ss.take (k + 1)) ∧ Kept (fun b => b = r) wm w5 from ⟨by rw [List.take_add_one, HX.out.1]; simpa using hs5, (HKP.out.drewN nq).trans hk5⟩)
            clear hs5 hk5
            go_wp2_with fail
            go_roundw
            case rel => exact ⟨k + 1, by omega, by go_num, HF.out.1, HF.out.2⟩
            case measure => simp [intOf]; omega
        · obtain rfl : k = m := by omega
          have hbl : Below W.heap.size W wr := H4.out.below.trans (HKP.out.below H4.out.below.size (fun q hq => by have := HSZ.out; omega))
          have h2 := heap_two wr (.cells #[.int .i64 0, .int .i64 0, .int .i64 0, .int .i64 1] 29 (0, 0)) (.cells #[.int .i64 0, .int .i64 0] 3 (0, 0))
          have hbl2 : Below W.heap.size W ((wr.alloc (.cells #[.int .i64 0, .int .i64 0, .int .i64 0, .int .i64 1] 29 (0, 0))).alloc (.cells #[.int .i64 0, .int .i64 0] 3 (0, 0))) :=
            (hbl.alloc hbl.size _).alloc (Nat.le_trans hbl.size (by simp)) _
          have co := one_c h2.1 h2.2
          have HBL := Lib.hid hbl2
          clear h2 hbl hbl2
          go_wp2_with fail
          refine co.mono ?_
          rintro e w9 ⟨g9, cap9, rfl, hcap9, hc9, hb9⟩
          have HB9 := Lib.hid (HBL.out.trans (hb9.mono HBL.out.size))
          clear co hb9
          go_wp2_with fail
          go_ret
          exact ⟨rfl, HB9.out⟩
end Go.Proofs.Ytlggpodblabmdaa
