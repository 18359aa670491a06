/-
  What impl.Sorted tells, by a contract; a lemma text, no statement of the seat.
-/
import Derived.Test.YtlggpodblabmdaaSortW
import Derived.Test.YtlggpodblabmdaaSame
import Derived.Test.YtlggpodblabmdaaChanged
import Derived.Test.YtlggpodblabmdaaAbove
namespace Go.Proofs.Ytlggpodblabmdaa
open Go.RowKit

/-- What impl.Sorted leaves: the children of p, sorted. -/
def SortedPost (w : World) (ks : List Nat) (rk : Nat → Nat) (e : Ending) (w' : World) : Prop :=
  ∃ v ss, e = .returned v ∧ w'.ownsRow w.heap.size 3 1 v ss.length (ints ss) ∧ ss.Perm ks ∧ SortedBy rk ss ∧ Below w.heap.size w w'

/-- At the head of a round of the last loop of impl.Sorted: pre have been told, m nodes are to come. -/
def Telling (B : Nat) (N : Nat → Nat) (ss : List Nat) (w0 : World) (m : Nat) (o c : Value) (wr : World) : Prop :=
  ∃ pre suf, ss = pre ++ suf ∧ suf.length = m ∧ c = nv N suf.head? ∧ wr.ownsRow B 3 1 o pre.length (ints pre) ∧ Below w0.heap.size w0 wr

set_option maxRecDepth 100000 in
set_option maxHeartbeats 1600000 in
theorem sorted_c (n : Nat) (hn : n ≤ 1000) (cs : List Ch) (v : Value) (w : World) (hl : w.ownsRow 0 29 4 v cs.length (cs.flatMap chCells)) (hlen : cs.length ≤ 2147483648) (hv : Valids n Gr.new cs) {p : Nat} (hp : p < n)
    {g cap : Nat} {rk : Nat → Nat} (hr : w.ownsRow 0 3 1 (.slice (some ⟨g, 0, none⟩) n cap) n ((List.range n).map fun i => .int .i64 (rk i : Int))) (hrk : ∀ i, i < n → rk i < 100) :
    Calls Try.prog 17 #[.int .i64 n, v, .int .i64 p, .slice (some ⟨g, 0, none⟩) n cap] w (SortedPost w ((runs Gr.new cs).kids p) rk) := by
  obtain ⟨i0, hi, hz0, hz1, hz2⟩ := info_parts Try.info3
  have HWF := Lib.hid (valids_wf n cs _ (wf_new n) hv)
  have hmm := @run_makeMap Try.prog
  have hmf : ∀ (fn : Fn) (first cap : Array Value) (w : World), (Instr.makeFunc fn first cap).run Try.prog w = .ok (.func fn first cap) w := fun _ _ _ _ => rfl
  obtain ⟨wa, hwa⟩ : ∃ wa, w.alloc (.cells #[.slice (some ⟨g, 0, none⟩) n cap] 38) = wa := ⟨_, rfl⟩
  have c := nodes_c n hn cs v wa (by rw [← hwa]; exact hl.alloc _) hlen hv
  have hba : Below w.heap.size w wa := by rw [← hwa]; exact (Below.refl _ _).alloc (Nat.le_refl _) _
  have hsa : wa.heap.size = w.heap.size + 1 := by rw [← hwa]; simp
  have hxa : wa.heap[w.heap.size]? = some (.cells #[.slice (some ⟨g, 0, none⟩) n cap] 38) := by rw [← hwa]; exact heap_alloc_new w _
  have hra : wa.ownsRow 0 3 1 (.slice (some ⟨g, 0, none⟩) n cap) n ((List.range n).map fun i => .int .i64 (rk i : Int)) := by rw [← hwa]; exact hr.alloc _
  have hgl : g < w.heap.size := (hr.lt g rfl).2
  have HA := Lib.hid (And.intro hba (And.intro hsa (And.intro hxa hra)))
  have HRK := Lib.hid hrk
  clear hl hv hr hba hsa hxa hra hrk
  go_enter Try.func17, Try.ntmps17
  go_wp2_with fail
  clear hwa
  refine c.mono ?_
  rintro e w1 ⟨N, v1, rfl, hr1, hrep, hN, hb1⟩
  clear c
  obtain ⟨og, oo, ocap, rfl, hocap, hoc⟩ := own_shape hr1
  obtain ⟨rfl, hog, -, hocell⟩ := hoc (by omega)
  have HROW := Lib.hid hr1
  have HR1 := Lib.hid hrep
  have HN := Lib.hid hN
  have HB1 := Lib.hid (HA.out.1.trans (hb1.mono HA.out.1.size))
  have HBA := Lib.hid hb1
  have HOC := Lib.hid hocell
  clear hr1 hrep hN hb1 hoc hocell
  go_wp2_with fail
  obtain ⟨w0, hw0⟩ : ∃ w0, w0 = (w1.alloc (.map #[] 0)).alloc (.cells #[.map (some w1.heap.size)] 58) := ⟨_, rfl⟩
  have hb0 : Below w1.heap.size w1 w0 := by rw [hw0]; exact ((Below.refl _ _).alloc (Nat.le_refl _) _).alloc (by simp) _
  have hmap0 : MapIs w0 N w1.heap.size 0 := by
    rw [hw0]; unfold MapIs
    rw [Below.heap_alloc _ _ _ (by simp)]
    exact heap_alloc_new w1 _
  have hbx0 : w0.heap[w1.heap.size + 1]? = some (.cells #[.map (some w1.heap.size)] 58 (0, 0)) := by
    rw [hw0]
    have := heap_alloc_new (w1.alloc (.map #[] 0)) (.cells #[.map (some w1.heap.size)] 58)
    simpa using this
  have hsz0 : w0.heap.size = w1.heap.size + 2 := by rw [hw0]; simp
  rw [← hw0]
  have HB0 := Lib.hid hb0
  have HM0 := Lib.hid hmap0
  have HX0 := Lib.hid hbx0
  have HS0 := Lib.hid hsz0
  clear hw0 hb0 hmap0 hbx0 hsz0
  go_loopw [21] (fun i wr => ∃ k : Nat, k ≤ n ∧ i = .int .i64 k ∧ MapIs wr N w1.heap.size k ∧ Kept (fun b => b = w1.heap.size) w0 wr) (fun i _ => n - (intOf i).toNat)
  case atStart => exact ⟨0, Nat.zero_le _, rfl, HM0.out, Kept.refl _ _⟩
  case round =>
    obtain ⟨k, hk, rfl, hmi, hkp⟩ := hrel
    have hbox : wr.cell? ⟨w1.heap.size + 1, 0, none⟩ = some (.map (some w1.heap.size)) :=
      block_cell (by rw [hkp.block _ (by rw [HS0.out]; omega) (by omega)]; exact HX0.out) rfl
    have hrep : Rep wr N n (lk (runs Gr.new cs)) := (HR1.out.kept (Kept.of_below (S := fun _ => False) HB0.out) (fun _ _ => id)).kept hkp (fun i hi => by have := HR1.out.lt hi; omega)
    have HR := Lib.hid hrep
    have HMI := Lib.hid hmi
    have HKP := Lib.hid hkp
    clear hrep hmi hkp
    by_cases hlt : k < n
    · have hcell : wr.cell? ⟨og, k, none⟩ = some (.iface 77 (.pointer (some ⟨N k, 0, none⟩))) := by
        have h1 : w1.cell? ⟨og, k, none⟩ = some (nv N (some k)) := by rw [HOC.out k (by omega)]; simp [hlt]
        exact HKP.out.cell ((HB0.out.cell (p := ⟨og, k, none⟩) hog).trans h1) (by simp; omega)
      obtain ⟨w2, hrun, hm1, hk1⟩ := map_store HR.out hlt HMI.out
      have HNx := Lib.hid (And.intro hm1 (HKP.out.trans hk1))
      clear hm1 hk1
      go_wp2
      go_roundw
      case rel => exact ⟨k + 1, by omega, by go_num, HNx.out.1, HNx.out.2⟩
      case measure => simp [intOf]; omega
    · obtain rfl : k = n := by omega
      obtain ⟨wo, rfl⟩ : ∃ wo : World, wo = wr := ⟨_, rfl⟩
      have hbo : Below w1.heap.size w1 wo := HB0.out.trans (HKP.out.below HB0.out.size (fun b hb => by omega))
      have hcp : wo.cell? ⟨og, p, none⟩ = some (.iface 77 (.pointer (some ⟨N p, 0, none⟩))) := by
        rw [hbo.cell (p := ⟨og, p, none⟩) hog, HOC.out p (by omega)]; simp [hp, nv_some]
      have hp0 : (0 : Int) ≤ (p : Int) := Int.natCast_nonneg _
      have hp1 : (p : Int) < (k : Int) := by omega
      have hcmp : CmpSt wo N k w.heap.size (w1.heap.size + 1) w1.heap.size g cap rk := by
        have hbw : Below wa.heap.size wa wo := HBA.out.trans (hbo.mono HBA.out.size)
        have hNlt := fun i hi => HR1.out.lt (i := i) hi
        have hsz1 := HBA.out.size
        refine ⟨?_, fun i hi => ?_, hbox, HMI.out, HRK.out, ?_, ?_, ?_, ?_⟩
        · exact block_cell (by rw [hbw.block _ (by have := HA.out.2.1; omega)]; exact HA.out.2.2.1) rfl
        · have h1 := HA.out.2.2.2.cellAt i (by omega)
          rw [hbw.cell (p := ⟨g, i, none⟩) (by show g < _; have := HA.out.2.1; omega), h1]; simp [hi]
        · rintro ⟨i, hi, e⟩; have := HN.out i hi; have := HA.out.2.1; omega
        · rintro ⟨i, hi, e⟩; have := hNlt i hi; omega
        · rintro ⟨i, hi, e⟩; have := hNlt i hi; omega
        · rintro ⟨i, hi, e⟩; have := HN.out i hi; have := HA.out.2.1; omega
      have cst := sort_c HR.out hcmp hp (ks := (runs Gr.new cs).kids p) (seg_lk HWF.out p) (HWF.out.nd p)
      have HBO := Lib.hid hbo
      have HCM := Lib.hid hcmp
      clear hbo hcmp
      go_wp2_with fail
      refine cst.mono ?_
      rintro e w3 ⟨rfl, ss, G3, hfi, hseg, hperm, hso, hst⟩
      clear cst
      have hcp3 := hst.kept.cell hcp (by
        rintro ⟨i, hi, e⟩
        have := rep_not_row HR1.out HROW.out (by decide) hi
        exact this (by rw [e]; rfl))
      have HCM3 := Lib.hid (HCM.out.kept hst.kept)
      have cf := get_first hst.rep hp (v := nv N ss.head?) (by rw [hfi])
      have HST := Lib.hid hst
      have HSEG := Lib.hid hseg
      have HPS := Lib.hid (And.intro hperm hso)
      have hbw3 : Below w.heap.size w w3 := by
        have h1 := HB1.out.trans (HBO.out.mono HB1.out.size)
        refine h1.trans (hst.kept.below h1.size (fun q hq => ?_))
        rintro ⟨i, hi, e⟩
        have := HN.out i hi
        have := HA.out.2.1
        omega
      have HBW3 := Lib.hid hbw3
      have hsl : ss.length ≤ k := by rw [hperm.length_eq]; exact HWF.out.len p
      clear hfi hseg hperm hso hst hbw3 hcp
      go_wp2_with fail
      refine cf.mono ?_
      rintro e w' ⟨rfl, rfl⟩
      clear cf hcp3
      have H0 := Lib.hid (show Telling w3.heap.size N ss w3 ss.length (.slice none 0 0) (nv N ss.head?) w3 from ⟨[], ss, rfl, rfl, rfl, World.ownsRow_nil _ _ _ _, Below.refl _ _⟩)
      have hst0 : nv N ss.head? = .nilIface ∨ ∃ y, nv N ss.head? = .iface 77 (.pointer (some ⟨N y, 0, none⟩)) := by
        cases ss.head? with
        | none => exact .inl rfl
        | some y => exact .inr ⟨y, rfl⟩
      obtain ⟨sv, hsv⟩ : ∃ sv, nv N ss.head? = sv := ⟨_, rfl⟩
      rw [hsv] at H0 hst0 ⊢
      clear hsv
      go_wp2_with fail
      go_loopg [13, 14] ss.length (fun m o c wr => Telling w3.heap.size N ss w3 m o c wr)
      case atStart => exact H0.out
      case round =>
        obtain ⟨pre, suf, hsp, hm, rfl, hown, hbw⟩ := hrel
        have HSP := Lib.hid (And.intro hsp hm)
        have hpl : pre.length + suf.length = ss.length := by rw [hsp]; simp
        clear hsp hm H0
        cases suf with
        | nil =>
          have HF := Lib.hid (show SortedPost w ((runs Gr.new cs).kids p) rk (.returned u13) wr from ⟨_, ss, rfl, by rw [HSP.out.1]; simpa using ownsRow_base hown HBW3.out.size, HPS.out.1, HPS.out.2, HBW3.out.trans (hbw.mono HBW3.out.size)⟩)
          clear hown hbw
          simp only [List.head?_nil, nv_none]
          go_wp2_with fail
          go_ret
          exact HF.out
        | cons y suf =>
          have hyn : y < k := HSEG.out.mem_lt y (by rw [HSP.out.1]; simp)
          have hyx : (G3 y).next = suf.head? := by have := HSEG.out; rw [HSP.out.1] at this; exact this.nextOf
          have HYX := Lib.hid hyx
          clear hyx
          have hrep := HST.out.rep.kept (Kept.of_below (S := fun _ => False) hbw) (fun _ _ => id)
          have hmi : MapIs wr N w1.heap.size k := by
            have hm3 := HCM3.out.map
            unfold MapIs at hm3 ⊢
            rw [hbw.block _ (lt_of_heap hm3)]; exact hm3
          have hlk := (map_look hrep hyn hmi).1
          have hbx : wr.cell? ⟨w1.heap.size + 1, 0, none⟩ = some (.map (some w1.heap.size)) := by
            have h3 := HCM3.out.box10
            rw [hbw.cell (p := ⟨w1.heap.size + 1, 0, none⟩) (World.block_lt_of_cell? w3 _ h3)]; exact h3
          have hszr := hbw.size
          have HBWr := Lib.hid hbw
          clear hrep hmi hbw
          simp only [List.length_cons] at hpl
          simp only [List.head?_cons, nv_some]
          go_wp2_with (at_builtin; refine wpList_append_own _ rfl _ _ 38 rfl w3.heap.size 3 i0 (.int .i64 0) 1 8 Try.underlying38 hi hz0 hz1 hz2 rfl (by decide) _ _ _ rfl (hown.alloc _) ⟨wr.heap.size, 0, none⟩ 1 1 [.int .i64 (y : Int)] rfl rfl ?c1 ?c2 ?c3 ?c4 ?c5 ?_)
          case c1 => exact fun j1 u hu => World.news_of_block (heap_alloc_new wr (.cells #[.int .i64 (y : Int)] 3)) j1 u hu
          case c2 => intro u hu; simp at hu; subst hu; rfl
          case c3 => unfold maxLen; omega
          case c4 => omega
          case c5 => simp; omega
          · intro v' w4 hown' hgrow _
            have hb4 : Below w3.heap.size w3 w4 := (HBWr.out.alloc hszr _).grown hgrow (by simp; omega) (fun b hb' => (hown.lt b hb').1)
            have hrep4 := HST.out.rep.kept (Kept.of_below (S := fun _ => False) hb4) (fun _ _ => id)
            have cn := get_next hrep4 hyn (v := nv N suf.head?) (by rw [HYX.out])
            have HN4 := Lib.hid (show Telling w3.heap.size N ss w3 suf.length v' (nv N suf.head?) w4 from ⟨pre ++ [y], suf, by rw [HSP.out.1]; simp, rfl, rfl, by simpa [ints] using hown', hb4⟩)
            clear hown' hgrow hb4 hrep4 hown hlk hbx
            go_wp2_with fail
            refine cn.mono ?_
            rintro e w' ⟨rfl, rfl⟩
            clear cn
            go_wp2_with fail
            go_roundg suf.length
            case measure => rw [← HSP.out.2]; simp
            case rel => exact HN4.out
end Go.Proofs.Ytlggpodblabmdaa
