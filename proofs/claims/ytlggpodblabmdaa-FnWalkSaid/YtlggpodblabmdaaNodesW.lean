/-
  The walk of impl.nodes; a lemma text, no statement of the seat.
-/
import Derived.Test.YtlggpodblabmdaaNodes
namespace Go.Proofs.Ytlggpodblabmdaa
open Go.RowKit

def runs (T : Gr) (cs : List Ch) : Gr := cs.foldl Gr.act T

def Valids (n : Nat) : Gr → List Ch → Prop
  | _, [] => True
  | T, c :: cs => Valid n T c ∧ Valids n (T.act c) cs

/-- What impl.nodes leaves: the nodes of T, listed by v. -/
def NodesPost (w : World) (n : Nat) (T : Gr) (e : Ending) (w' : World) : Prop :=
  ∃ N v, e = .returned v ∧ w'.ownsRow w.heap.size 60 1 v n ((List.range n).map fun i => nv N (some i)) ∧ Rep w' N n (lk T) ∧ (∀ i, i < n → w.heap.size ≤ N i) ∧ Below w.heap.size w w'

theorem own_shape {w : World} {b e s n : Nat} {v : Value} {xs : List Value} (h : w.ownsRow b e s v n xs) :
    ∃ g ao cap, v = .slice ao n cap ∧ n ≤ cap ∧ (0 < n → ao = some ⟨g, 0, none⟩ ∧ g < w.heap.size ∧ b ≤ g ∧ ∀ j, j < n * s → w.cell? ⟨g, j, none⟩ = xs[j]?) := by
  have h0 := h
  obtain ⟨_, ⟨rfl, rfl⟩ | ⟨g, cap, cur, rfl, hb, hg, hcap, _⟩⟩ := h0
  · exact ⟨0, none, 0, rfl, Nat.le_refl _, fun h => absurd h (by omega)⟩
  · refine ⟨g, _, cap, rfl, hcap, fun _ => ⟨rfl, ?_, hb, fun j hj => h.cellAt j hj⟩⟩
    rcases Nat.lt_or_ge g w.heap.size with h' | h'
    · exact h'
    · simp [Array.getElem?_eq_none h'] at hg

/-- k changes have been made. -/
structure Looped (w0 : World) (N : Nat → Nat) (n : Nat) (cs : List Ch) (k : Nat) (wr : World) : Prop where
  rep : Rep wr N n (lk (runs Gr.new (cs.take k)))
  wf : WF n (runs Gr.new (cs.take k))
  valid : Valids n (runs Gr.new (cs.take k)) (cs.drop k)
  kept : Kept (InN N n) w0 wr

theorem wf_new (n : Nat) : WF n Gr.new := ⟨fun _ => List.nodup_nil, fun p x => by simp [Gr.new], fun p x h => by simp [Gr.new] at h⟩

theorem runs_take (cs : List Ch) (k : Nat) (c : Ch) (hc : cs[k]? = some c) : runs Gr.new (cs.take (k + 1)) = (runs Gr.new (cs.take k)).act c := by
  unfold runs
  rw [List.take_add_one, hc]
  simp

theorem looped_valid {w0 wr : World} {N : Nat → Nat} {n k : Nat} {cs : List Ch} {c : Ch} (h : Looped w0 N n cs k wr) (hc : cs[k]? = some c) : Valid n (runs Gr.new (cs.take k)) c := by
  have := h.valid
  have hk := (List.getElem?_eq_some_iff.1 hc)
  rw [List.drop_eq_getElem_cons hk.1, hk.2] at this
  exact this.1

theorem looped_next {w0 wr w1 : World} {N : Nat → Nat} {n k : Nat} {cs : List Ch} {c : Ch} (h : Looped w0 N n cs k wr) (hc : cs[k]? = some c) {o : Obj} {q : Nat}
    (hs : Step N n ((wr.alloc o).drewN q) w1 (lk ((runs Gr.new (cs.take k)).act c))) : Looped w0 N n cs (k + 1) w1 := by
  have hv := h.valid
  have hk := (List.getElem?_eq_some_iff.1 hc)
  rw [List.drop_eq_getElem_cons hk.1, hk.2] at hv
  refine ⟨?_, ?_, ?_, (h.kept.trans (((Kept.refl _ _).alloc _).drewN _)).trans hs.kept⟩
  · rw [runs_take _ _ _ hc]; exact hs.rep
  · rw [runs_take _ _ _ hc]; exact h.wf.act hv.1
  · rw [runs_take _ _ _ hc]; exact hv.2

set_option maxHeartbeats 800000 in
theorem nodes_c (n : Nat) (hn : n ≤ 1000) (cs : List Ch) (v : Value) (w : World) (hl : w.ownsRow 0 29 4 v cs.length (cs.flatMap chCells)) (hlen : cs.length ≤ 2147483648) (hv : Valids n Gr.new cs) :
    Calls Try.prog 23 #[.int .i64 n, v] w (NodesPost w n (runs Gr.new cs)) := by
  obtain ⟨i0, hi, hz0, hz1, hz2⟩ := info_parts Try.info60
  obtain ⟨lg, lo, lcap, rfl, hlcap, hlc⟩ := own_shape hl
  go_enter Try.func23, Try.ntmps23
  go_wp2_with fail
  go_loopw [5, 12] (fun o i wr => ∃ k : Nat, k ≤ n ∧ i = .int .i64 k ∧ ∃ N, Made w N k o wr) (fun _ i _ => n - (intOf i).toNat)
  case atStart => exact ⟨0, Nat.zero_le _, rfl, fun _ => 0, World.ownsRow_nil _ _ _ _, ⟨fun i h => absurd h (by omega), fun i j h => absurd h (by omega)⟩, fun i h => absurd h (by omega), Below.refl _ _⟩
  case round =>
    obtain ⟨k, hk, rfl, N, hm⟩ := hrel
    have hown := hm.1
    have hsz := hm.2.2.2.size
    by_cases hlt : k < n
    · have HM := Lib.hid hm
      clear hm
      go_wp2_with (first
        | (go_at_call 29; refine (new_c _).mono ?_; rintro e w' ⟨rfl, rfl⟩)
        | (at_builtin; refine wpList_append_own _ rfl _ _ 54 rfl w.heap.size 60 i0 .nilIface 1 16 Try.underlying54 hi hz0 hz1 hz2 rfl (by decide) _ _ _ rfl ((hown.alloc _).alloc _) ⟨wr.heap.size + 1, 0, none⟩ 1 1 [.iface 77 (.pointer (some ⟨wr.heap.size, 0, none⟩))] rfl rfl ?c1 ?c2 ?c3 ?c4 ?c5 ?_))
      case c1 =>
        intro j u hj
        match j, hj with
        | 0, hj => simp at hj; subst hj; simp [Addr.add]
      case c2 => intro u hu; simp at hu; subst hu; rfl
      case c3 => unfold maxLen; omega
      case c4 => omega
      case c5 => simp; omega
      · intro v' w1 hown' hgrow _
        have hm' := made_next HM.out hown' hgrow
        have HM' := Lib.hid hm'
        clear hm' hown' hgrow hown HM
        go_wp2
        go_roundw
        case rel => exact ⟨k + 1, by omega, by go_num, _, HM'.out⟩
        case measure => simp [intOf]; omega
    · obtain rfl : k = n := by omega
      obtain ⟨wo, rfl⟩ : ∃ wo : World, wo = wr := ⟨_, rfl⟩
      obtain ⟨og, oo, ocap, rfl, hocap, hoc⟩ := own_shape hown
      have hb := hm.2.2.1
      have hbe := hm.2.2.2
      have HO := Lib.hid hown
      have HB := Lib.hid hb
      have HBE := Lib.hid hbe
      have hL0 : Looped wo N k cs 0 wo := ⟨hm.2.1, wf_new k, hv, Kept.refl _ _⟩
      have H0 := Lib.hid hL0
      have HOC := Lib.hid hoc
      have HLC := Lib.hid hlc
      clear hm hown hb hbe hL0 hoc hlc hl hv
      go_wp2_with fail
      go_loopw [22] (fun i wq => ∃ j : Nat, j ≤ cs.length ∧ i = .int .i64 j ∧ Looped wo N k cs j wq) (fun i _ => cs.length - (intOf i).toNat)
      case atStart => exact ⟨0, Nat.zero_le _, rfl, H0.out⟩
      case round =>
        obtain ⟨j, hj, rfl, hlp⟩ := hrel
        have HLp := Lib.hid hlp
        clear hlp
        by_cases hjl : j < cs.length
        · obtain ⟨c, hc⟩ : ∃ c, cs[j]? = some c := ⟨_, List.getElem?_eq_getElem hjl⟩
          have hvc := looped_valid HLp.out hc
          have hinn := hvc.inn
          have hatt := hvc.att
          have hwhat := hvc.what
          obtain ⟨rfl, hlg, -, hlcell⟩ := HLC.out (by omega)
          obtain ⟨rfl, hog, -, hocell⟩ := HOC.out (by omega)
          have hkq := HLp.out.kept
          have hB : Below w.heap.size w wr := HBE.out.trans (hkq.below HBE.out.size (fun b hb => by rintro ⟨i, hi, rfl⟩; have := HB.out i hi; omega))
          have hogn : ¬ InN N k og := by
            rintro ⟨i, hi, rfl⟩
            exact rep_not_row H0.out.rep HO.out (by decide) hi rfl
          have hf : ∀ f u, (chCells c)[f]? = some u → wr.cell? ⟨lg, j * 4 + f, none⟩ = some u := fun f u hu => by
            have hf4 : f < 4 := (List.getElem?_eq_some_iff.1 hu).1
            rw [hB.cell (p := ⟨lg, j * 4 + f, none⟩) hlg, hlcell _ (by omega), chCells_at cs j c f hc hf4, hu]
          have hoq : ∀ i, i < k → ∀ o : Obj, (wr.alloc o).cell? ⟨og, i, none⟩ = some (.iface 77 (.pointer (some ⟨N i, 0, none⟩))) := fun i hi o => by
            have h1 : wo.cell? ⟨og, i, none⟩ = some (nv N (some i)) := by rw [hocell i (by omega)]; simp [hi]
            exact ((hkq.trans ((Kept.refl _ _).alloc o)).cell h1 hogn)
          have HR : ∀ (o : Obj) (q : Nat), Rep ((wr.alloc o).drewN q) N k (lk (runs Gr.new (cs.take j))) := fun o q =>
            HLp.out.rep.kept (S := fun _ => False) (((Kept.refl _ _).alloc o).drewN q) (fun _ _ => id)
          have HC := Lib.hid hc
          have HV := Lib.hid hvc
          have HWF := Lib.hid HLp.out.wf
          have HR := Lib.hid HR
          have hf1 := hf 1 (.int .i64 c.inn) rfl
          have hf2 := hf 2 (.int .i64 c.att) rfl
          have hf3 := hf 3 (.int .i64 c.what) rfl
          have ho1 := hoq c.inn hinn
          have ho2 := hoq c.att hatt
          have ho3 := hoq c.what hwhat
          have hi1 : (0 : Int) ≤ (c.inn : Int) := Int.natCast_nonneg _
          have hi2 : (0 : Int) ≤ (c.att : Int) := Int.natCast_nonneg _
          have hi3 : (0 : Int) ≤ (c.what : Int) := Int.natCast_nonneg _
          have hj1 : (c.inn : Int) < (k : Int) := by omega
          have hj2 : (c.att : Int) < (k : Int) := by omega
          have hj3 : (c.what : Int) < (k : Int) := by omega
          clear hc hvc hlcell hocell hkq hB hogn hoq hlg hog
          rcases (show c.kind = 0 ∨ c.kind = 1 ∨ c.kind = 2 ∨ c.kind = 3 ∨ c.kind = 4 ∨ c.kind = 5 from by have := HV.out.kind; omega) with hk0 | hk0 | hk0 | hk0 | hk0 | hk0
          · have hf0 := hf 0 (.int .i64 0) (by simp [chCells, hk0])
            have HK := Lib.hid hk0
            clear hk0 hf
            simp only [Nat.add_zero] at hf0
            go_wp2_with fail
            go_quiet (fail)
            go_wp2_with fail
            refine (act0 (c := c) (HR.out _ _) HWF.out hn HV.out HK.out).mono ?_
            rintro e w1 ⟨rfl, hs⟩
            have HL := Lib.hid (looped_next HLp.out HC.out hs)
            clear hs
            go_wp2_with fail
            go_roundw
            case rel => exact ⟨j + 1, by omega, by go_num, HL.out⟩
            case measure => simp [intOf]; omega
          · have hf0 := hf 0 (.int .i64 1) (by simp [chCells, hk0])
            have HK := Lib.hid hk0
            clear hk0 hf
            simp only [Nat.add_zero] at hf0
            go_wp2_with fail
            go_quiet (fail)
            go_wp2_with fail
            refine (act1 (c := c) (HR.out _ _) HWF.out hn HV.out HK.out).mono ?_
            rintro e w1 ⟨rfl, hs⟩
            have HL := Lib.hid (looped_next HLp.out HC.out hs)
            clear hs
            go_wp2_with fail
            go_roundw
            case rel => exact ⟨j + 1, by omega, by go_num, HL.out⟩
            case measure => simp [intOf]; omega
          · have hf0 := hf 0 (.int .i64 2) (by simp [chCells, hk0])
            have HK := Lib.hid hk0
            clear hk0 hf
            simp only [Nat.add_zero] at hf0
            go_wp2_with fail
            go_quiet (fail)
            go_wp2_with fail
            refine (act2 (c := c) (HR.out _ _) HWF.out HV.out HK.out).mono ?_
            rintro e w1 ⟨rfl, hs⟩
            have HL := Lib.hid (looped_next HLp.out HC.out hs)
            clear hs
            go_wp2_with fail
            go_roundw
            case rel => exact ⟨j + 1, by omega, by go_num, HL.out⟩
            case measure => simp [intOf]; omega
          · have hf0 := hf 0 (.int .i64 3) (by simp [chCells, hk0])
            have HK := Lib.hid hk0
            clear hk0 hf
            simp only [Nat.add_zero] at hf0
            go_wp2_with fail
            go_quiet (fail)
            go_wp2_with fail
            refine (act3 (c := c) (HR.out _ _) HWF.out hn HV.out HK.out).mono ?_
            rintro e w1 ⟨rfl, hs⟩
            have HL := Lib.hid (looped_next HLp.out HC.out hs)
            clear hs
            go_wp2_with fail
            go_roundw
            case rel => exact ⟨j + 1, by omega, by go_num, HL.out⟩
            case measure => simp [intOf]; omega
          · have hf0 := hf 0 (.int .i64 4) (by simp [chCells, hk0])
            have HK := Lib.hid hk0
            clear hk0 hf
            simp only [Nat.add_zero] at hf0
            go_wp2_with fail
            go_quiet (fail)
            go_wp2_with fail
            refine (act4 (c := c) (HR.out _ _) HWF.out hn HV.out HK.out).mono ?_
            rintro e w1 ⟨rfl, hs⟩
            have HL := Lib.hid (looped_next HLp.out HC.out hs)
            clear hs
            go_wp2_with fail
            go_roundw
            case rel => exact ⟨j + 1, by omega, by go_num, HL.out⟩
            case measure => simp [intOf]; omega
          · have hf0 := hf 0 (.int .i64 5) (by simp [chCells, hk0])
            have HK := Lib.hid hk0
            clear hk0 hf
            simp only [Nat.add_zero] at hf0
            go_wp2_with fail
            go_quiet (fail)
            go_wp2_with fail
            refine (act5 (c := c) (HR.out _ _) HWF.out hn HV.out HK.out).mono ?_
            rintro e w1 ⟨rfl, hs⟩
            have HL := Lib.hid (looped_next HLp.out HC.out hs)
            clear hs
            go_wp2_with fail
            go_roundw
            case rel => exact ⟨j + 1, by omega, by go_num, HL.out⟩
            case measure => simp [intOf]; omega
        · obtain rfl : j = cs.length := by omega
          go_wp2_with fail
          go_ret
          have hL := HLp.out
          have hB : Below w.heap.size wo wr := hL.kept.below HBE.out.size (fun b hb => by rintro ⟨i, hi, rfl⟩; have := HB.out i hi; omega)
          refine ⟨N, _, rfl, ?_, ?_, HB.out, HBE.out.trans hB⟩
          · exact hL.kept.row HO.out (fun g hg => by rintro ⟨i, hi, rfl⟩; exact rep_not_row H0.out.rep HO.out (by decide) hi hg.symm)
          · have := hL.rep
            rwa [List.take_length] at this
end Go.Proofs.Ytlggpodblabmdaa
