/-
  What impl.Walk tells, by a contract; a lemma text, no statement of the seat.
-/
import Derived.Test.YtlggpodblabmdaaHelper
import Derived.Test.YtlggpodblabmdaaChanged
namespace Go.Proofs.Ytlggpodblabmdaa
open Go.RowKit

/-- What goldmark's Walk leaves. -/
theorem walk_c {N : Nat → Nat} {n : Nat} {T : Gr} {B bo bm br r : Nat} {ao : Option Addr} {gs : List Int} {gl cap : Nat} {d : Nat → Nat} {D f x : Nat} {l : List (Nat × Bool)} {v : Value} {w : World}
    (ih : WHAt N n T B bo bm br r ao gs gl cap d D f) (hc : CB N n (lk T) B bo bm br r ao gs gl cap l v w) (hx : x < n) (hD : D < d x + f) (hl : l.length + 2 * sz T f x ≤ 100000) :
    Calls Try.prog 33 #[.iface 77 (.pointer (some ⟨N x, 0, none⟩)), .func (.func 34) #[] #[.pointer (some ⟨bo, 0, none⟩), .pointer (some ⟨bm, 0, none⟩), .pointer (some ⟨br, 0, none⟩)]] w
      fun e w' => e = .returned .nilIface ∧ ∃ v', CB N n (lk T) B bo bm br r ao gs gl cap (wk T (ansAt gs) f x l).1 v' w' ∧ Below B w w' := by
  have c := ih x l v w hc hx hD hl
  clear ih hc hD hl
  go_enter Try.func33, Try.ntmps33
  go_wp2_with fail
  refine c.mono ?_
  rintro e w1 ⟨rfl, v1, hc1, hb1⟩
  have HC := Lib.hid (And.intro hc1 hb1)
  obtain ⟨st, hst⟩ : ∃ st : Int, (if (wk T (ansAt gs) f x l).2 = true then (3 : Int) else 1) = st := ⟨_, rfl⟩
  rw [hst]
  clear hc1 hb1 hst c
  go_wp2_with fail
  go_ret
  exact ⟨rfl, v1, HC.out⟩

/-- What impl.Walk leaves. -/
def IWPost (w : World) (rr : List (Nat × Bool) × Bool) (e : Ending) (w' : World) : Prop :=
  ∃ v, e = .returned (.tuple #[v, .bool true]) ∧ w'.ownsRow w.heap.size 71 2 v rr.1.length (visL rr.1) ∧ Below w.heap.size w w'

set_option maxRecDepth 100000 in
set_option maxHeartbeats 1600000 in
theorem implWalk_c (n : Nat) (hn : n ≤ 1000) (cs : List Ch) (v : Value) (w : World) (hl : w.ownsRow 0 29 4 v cs.length (cs.flatMap chCells)) (hlen : cs.length ≤ 2147483648) (hv : Valids n Gr.new cs) {p : Nat} (hp : p < n)
    {ao : Option Addr} {gs : List Int} {gl cap : Nat} (hgs : gs.length = gl) (hgl : gl ≤ 2147483647) (hg3 : ∀ z ∈ gs, 0 ≤ z ∧ z < 3) (hin : IntsB w w.heap.size ao gs)
    {d : Nat → Nat} {D f : Nat} (hd : ∀ x q, (runs Gr.new cs).par x = some q → d q < d x) (hD : ∀ i, i < n → d i ≤ D) (hf : D < d p + f) :
    Calls Try.prog 27 #[.int .i64 n, v, .int .i64 p, .slice ao gl cap] w (IWPost w (wk (runs Gr.new cs) (ansAt gs) f p [])) := by
  have HWF := Lib.hid (valids_wf n cs _ (wf_new n) hv)
  have hmm := @run_makeMap Try.prog
  have hmf : ∀ (fn : Fn) (first cap : Array Value) (w : World), (Instr.makeFunc fn first cap).run Try.prog w = .ok (.func fn first cap) w := fun _ _ _ _ => rfl
  obtain ⟨wa, hwa⟩ : ∃ wa, w.alloc (.cells #[.slice ao gl cap] 38) = wa := ⟨_, rfl⟩
  have c := nodes_c n hn cs v wa (by rw [← hwa]; exact hl.alloc _) hlen hv
  have hba : Below w.heap.size w wa := by rw [← hwa]; exact (Below.refl _ _).alloc (Nat.le_refl _) _
  have hsa : wa.heap.size = w.heap.size + 1 := by rw [← hwa]; simp
  have hxa : wa.heap[w.heap.size]? = some (.cells #[.slice ao gl cap] 38) := by rw [← hwa]; exact heap_alloc_new w _
  have HA := Lib.hid (And.intro hba (And.intro hsa hxa))
  have HIN := Lib.hid hin
  have HG := Lib.hid (And.intro hgs hg3)
  have HDD := Lib.hid (And.intro hd (And.intro hD hf))
  clear hl hv hba hsa hxa hin hgs hg3 hd hD hf
  go_enter Try.func27, Try.ntmps27
  go_wp2_with fail
  clear hwa
  refine c.mono ?_
  rintro e w1 ⟨N, v1, rfl, hr1, hrep, hN, hb1⟩
  clear c
  obtain ⟨og, oo, ocap, rfl, hocap, hoc⟩ := own_shape hr1
  obtain ⟨rfl, hog, -, hocell⟩ := hoc (by omega)
  have HROW := Lib.hid hr1
  have HR1 := Lib.hid hrep
  have HN := Lib.hid hN
  have HB1 := Lib.hid (HA.out.1.trans (hb1.mono HA.out.1.size))
  have HBA := Lib.hid hb1
  have HOC := Lib.hid hocell
  clear hr1 hrep hN hb1 hoc hocell
  go_wp2_with fail
  obtain ⟨w0, hw0⟩ : ∃ w0, w0 = (w1.alloc (.map #[] 0)).alloc (.cells #[.map (some w1.heap.size)] 58) := ⟨_, rfl⟩
  have hb0 : Below w1.heap.size w1 w0 := by rw [hw0]; exact ((Below.refl _ _).alloc (Nat.le_refl _) _).alloc (by simp) _
  have hmap0 : MapIs w0 N w1.heap.size 0 := by
    rw [hw0]; unfold MapIs
    rw [Below.heap_alloc _ _ _ (by simp)]
    exact heap_alloc_new w1 _
  have hbx0 : w0.heap[w1.heap.size + 1]? = some (.cells #[.map (some w1.heap.size)] 58 (0, 0)) := by
    rw [hw0]
    have := heap_alloc_new (w1.alloc (.map #[] 0)) (.cells #[.map (some w1.heap.size)] 58)
    simpa using this
  have hsz0 : w0.heap.size = w1.heap.size + 2 := by rw [hw0]; simp
  rw [← hw0]
  have HB0 := Lib.hid hb0
  have HM0 := Lib.hid hmap0
  have HX0 := Lib.hid hbx0
  have HS0 := Lib.hid hsz0
  clear hw0 hb0 hmap0 hbx0 hsz0
  go_loopw [22] (fun i wr => ∃ k : Nat, k ≤ n ∧ i = .int .i64 k ∧ MapIs wr N w1.heap.size k ∧ Kept (fun b => b = w1.heap.size) w0 wr) (fun i _ => n - (intOf i).toNat)
  case atStart => exact ⟨0, Nat.zero_le _, rfl, HM0.out, Kept.refl _ _⟩
  case round =>
    obtain ⟨k, hk, rfl, hmi, hkp⟩ := hrel
    have hbox : wr.cell? ⟨w1.heap.size + 1, 0, none⟩ = some (.map (some w1.heap.size)) :=
      block_cell (by rw [hkp.block _ (by rw [HS0.out]; omega) (by omega)]; exact HX0.out) rfl
    have hrep : Rep wr N n (lk (runs Gr.new cs)) := (HR1.out.kept (Kept.of_below (S := fun _ => False) HB0.out) (fun _ _ => id)).kept hkp (fun i hi => by have := HR1.out.lt hi; omega)
    have HR := Lib.hid hrep
    have HMI := Lib.hid hmi
    have HKP := Lib.hid hkp
    clear hrep hmi hkp
    by_cases hlt : k < n
    · have hcell : wr.cell? ⟨og, k, none⟩ = some (.iface 77 (.pointer (some ⟨N k, 0, none⟩))) := by
        have h1 : w1.cell? ⟨og, k, none⟩ = some (nv N (some k)) := by rw [HOC.out k (by omega)]; simp [hlt]
        exact HKP.out.cell ((HB0.out.cell (p := ⟨og, k, none⟩) hog).trans h1) (by simp; omega)
      obtain ⟨w2, hrun, hm1, hk1⟩ := map_store HR.out hlt HMI.out
      have HNx := Lib.hid (And.intro hm1 (HKP.out.trans hk1))
      clear hm1 hk1
      go_wp2
      go_roundw
      case rel => exact ⟨k + 1, by omega, by go_num, HNx.out.1, HNx.out.2⟩
      case measure => simp [intOf]; omega
    · obtain rfl : k = n := by omega
      obtain ⟨wo, rfl⟩ : ∃ wo : World, wo = wr := ⟨_, rfl⟩
      have hbo : Below w1.heap.size w1 wo := HB0.out.trans (HKP.out.below HB0.out.size (fun b hb => by omega))
      have hcp : wo.cell? ⟨og, p, none⟩ = some (.iface 77 (.pointer (some ⟨N p, 0, none⟩))) := by
        rw [hbo.cell (p := ⟨og, p, none⟩) hog, HOC.out p (by omega)]; simp [hp, nv_some]
      have hp0 : (0 : Int) ≤ (p : Int) := Int.natCast_nonneg _
      have hp1 : (p : Int) < (k : Int) := by omega
      obtain ⟨wq, hwq⟩ : ∃ wq, wo.alloc (.cells #[.slice none 0 0] 67) = wq := ⟨_, rfl⟩
      have hbw : Below wa.heap.size wa wo := HBA.out.trans (hbo.mono HBA.out.size)
      have hbq : Below wo.heap.size wo wq := by rw [← hwq]; exact (Below.refl _ _).alloc (Nat.le_refl _) _
      have hbww : Below w.heap.size w wo := HB1.out.trans (hbo.mono HB1.out.size)
      have hcb : CB N k (lk (runs Gr.new cs)) w.heap.size wo.heap.size (w1.heap.size + 1) w.heap.size w1.heap.size ao gs gl cap [] (.slice none 0 0) wq := by
        have hmi := HMI.out
        have hbq' : ∀ q o, wo.heap[q]? = some o → wq.heap[q]? = some o := fun q o h => by rw [hbq.block q (lt_of_heap h)]; exact h
        refine ⟨HR.out.kept (Kept.of_below (S := fun _ => False) hbq) (fun _ _ => id), by rw [← hwq]; exact heap_alloc_new wo _, World.ownsRow_nil _ _ _ _, hbq' _ _ ?_, hbq' _ _ hmi, hbq' _ _ ?_, HIN.out.below (hbww.trans (hbq.mono hbww.size)), hbww.size, HG.out.1⟩
        · rw [HKP.out.block _ (by rw [HS0.out]; omega) (by omega)]; exact HX0.out
        · rw [hbw.block _ (by have := HA.out.2.1; omega)]; exact HA.out.2.2
      have cw := walk_c (helper_c (ao := ao) (cap := cap) (N := N) (bo := wo.heap.size) (bm := w1.heap.size + 1) (br := w.heap.size) (r := w1.heap.size) (B := w.heap.size) HWF.out hgl HG.out.2 HDD.out.1 HDD.out.2.1 f) hcb hp HDD.out.2.2 (by
        have := sz_le HWF.out HDD.out.1 f p hp
        simp only [List.length_nil]
        omega)
      have HBQ := Lib.hid (hbww.trans (hbq.mono hbww.size))
      have hcpq : wq.cell? ⟨og, p, none⟩ = some (.iface 77 (.pointer (some ⟨N p, 0, none⟩))) := by
        rw [hbq.cell (p := ⟨og, p, none⟩) (World.block_lt_of_cell? wo _ hcp)]; exact hcp
      clear hbo hbw hbq hbww hcb hbox hcp
      go_wp2_with fail
      refine cw.mono ?_
      rintro e w5 ⟨rfl, v5, hc5, hb5⟩
      have HF := Lib.hid (And.intro hc5.row (HBQ.out.trans hb5))
      have ko := block_cell hc5.boxo (o := 0) rfl
      clear cw hc5 hb5 hwq
      go_wp2_with fail
      go_quiet (fail)
      have HF2 := Lib.hid (show IWPost w (wk (runs Gr.new cs) (ansAt gs) f p []) (.returned (.tuple #[v5, .bool true])) (w5.drewN nq) from
        ⟨_, rfl, ((Kept.refl (fun _ => False) w5).drewN nq).row HF.out.1 (fun _ _ => id), ⟨HF.out.2.os, HF.out.2.tape, HF.out.2.output, HF.out.2.size, HF.out.2.block⟩⟩)
      clear HF
      go_wp2_with fail
      go_ret2
      exact HF2.out
end Go.Proofs.Ytlggpodblabmdaa
