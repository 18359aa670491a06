/-
  What impl.links tells of nodes, by a contract; a lemma text, no statement of the seat.
-/
import Derived.Test.YtlggpodblabmdaaNodesW
import Derived.Test.YtlggpodblabmdaaMap
import Derived.Deep.AppendLies
namespace Go.Proofs.Ytlggpodblabmdaa
open Go.RowKit

/-- A node's number; -1: nowhere. -/
def pn : Option Nat → Int
  | none => -1
  | some i => i

/-- A function value called: 'Deferred.ofValue' and 'invoke' by a name that the walk does not open. -/
def callValue (f : Value) (args : Array Value) : Sem Next := do let d ← Deferred.ofValue f args; invoke d.target d.args

section
variable (ρ : Operand → Value) (dst : Option Tmp) (t : Tmp) (a b : Operand) (ats : Array TypeId) (ty : TypeId) (pos : String) (after : Array Edge) (guard : Option (Nat × Bool))
@[go_sem ↓] theorem execOp_value0 : execOp ρ { dst, op := .call { callee := .value (.tmp t), args := #[], argTypes := ats }, type := ty, pos, after, guard } = callValue (ρ (.tmp t)) #[] := by simp [execOp, resolve, callValue]
@[go_sem ↓] theorem execOp_value1 : execOp ρ { dst, op := .call { callee := .value (.tmp t), args := #[a], argTypes := ats }, type := ty, pos, after, guard } = callValue (ρ (.tmp t)) #[ρ a] := by simp [execOp, resolve, callValue]
@[go_sem ↓] theorem execOp_value2 : execOp ρ { dst, op := .call { callee := .value (.tmp t), args := #[a, b], argTypes := ats }, type := ty, pos, after, guard } = callValue (ρ (.tmp t)) #[ρ a, ρ b] := by simp [execOp, resolve, callValue]
end

@[go_sem] theorem callValue_28 (x c : Value) (w : World) : (callValue (.func (.func 28) #[] #[c]) #[x]).run Try.prog w = .ok (.enter 28 #[x, c]) w := by kernel_rfl

section
variable {w : World} {N : Nat → Nat} {n : Nat} {G : Nat → Nd}

theorem at_c (h : Rep w N n G) (x : Option Nat) (hx : ∀ i, x = some i → i < n) {bx r : Nat} (hb : w.cell? ⟨bx, 0, none⟩ = some (.map (some r))) (hm : MapIs w N r n) {v : Value} (hv : nv N x = v) :
    Calls Try.prog 28 #[v, .pointer (some ⟨bx, 0, none⟩)] w fun e w' => e = .returned (.int .i64 (pn x)) ∧ w = w' := by
  cases x with
  | none =>
    rw [nv_none] at hv; subst hv
    clear hx hb hm h
    go_enter Try.func28, Try.ntmps28
    go_wp2
    go_ret
    exact ⟨rfl, rfl⟩
  | some i =>
    rw [nv_some] at hv; subst hv
    have hl := (map_look h (hx i rfl) hm).2
    clear hx hm h
    go_enter Try.func28, Try.ntmps28
    go_wp2
    go_ret
    exact ⟨rfl, rfl⟩
end

theorem Try.info44 : (Try.prog.info? 44).map (fun i => (i.zero, i.size, i.bytes)) = some (some (.agg #[.int .i64 0, .int .i64 0, .int .i64 0, .int .i64 0, .int .i64 0, .int .i64 0, .bool false]), 7, 56) := by kernel_rfl

def lkCells (d : Nd) : List Value := [.int .i64 (pn d.parent), .int .i64 (pn d.first), .int .i64 (pn d.last), .int .i64 (pn d.next), .int .i64 (pn d.prev), .int .i64 d.count, .bool d.first.isSome]

/-- What impl.links leaves. -/
def LinksPost (w : World) (n : Nat) (G : Nat → Nd) (e : Ending) (w' : World) : Prop :=
  ∃ v, e = .returned v ∧ w'.ownsRow w.heap.size 44 7 v n ((List.range n).flatMap fun i => lkCells (G i)) ∧ Below w.heap.size w w'

theorem ownsRow_base {w : World} {b b' e s n : Nat} {v : Value} {xs : List Value} (h : w.ownsRow b e s v n xs) (hb : b' ≤ b) : w.ownsRow b' e s v n xs := by
  obtain ⟨hl, hv | ⟨g, cap, cur, rfl, hg, r⟩⟩ := h
  · exact ⟨hl, .inl hv⟩
  · exact ⟨hl, .inr ⟨g, cap, cur, rfl, by omega, r⟩⟩

theorem block_cell {w : World} {b : Nat} {cs : Array Value} {t : TypeId} (h : w.heap[b]? = some (.cells cs t (0, 0))) {o : Nat} {v : Value} (hv : cs[o]? = some v) : w.cell? ⟨b, o, none⟩ = some v := by
  simp [World.cell?, h, hv]

set_option maxRecDepth 100000 in
set_option maxHeartbeats 800000 in
theorem links_c {w : World} {N : Nat → Nat} {n : Nat} {G : Nat → Nd} (hn : n ≤ 1000) {b0 : Nat} {v : Value} (hrow : w.ownsRow b0 60 1 v n ((List.range n).map fun i => nv N (some i))) (h : Rep w N n G) (ok : Ok n G) :
    Calls Try.prog 22 #[v] w (LinksPost w n G) := by
  obtain ⟨i0, hi, hz0, hz1, hz2⟩ := info_parts Try.info44
  obtain ⟨og, oo, ocap, rfl, hocap, hoc⟩ := own_shape hrow
  have HROW := Lib.hid hrow
  have HOC := Lib.hid hoc
  have HR0 := Lib.hid h
  have HOK := Lib.hid ok
  have hmm := @run_makeMap Try.prog
  have hmf : ∀ (fn : Fn) (first cap : Array Value) (w : World), (Instr.makeFunc fn first cap).run Try.prog w = .ok (.func fn first cap) w := fun _ _ _ _ => rfl
  clear hrow h ok hoc
  go_enter Try.func22, Try.ntmps22
  go_wp2_with fail
  obtain ⟨w0, hw0⟩ : ∃ w0, w0 = (w.alloc (.map #[] 0)).alloc (.cells #[.map (some w.heap.size)] 58) := ⟨_, rfl⟩
  have hb0 : Below w.heap.size w w0 := by rw [hw0]; exact ((Below.refl _ _).alloc (Nat.le_refl _) _).alloc (by simp) _
  have hmap0 : MapIs w0 N w.heap.size 0 := by
    rw [hw0]; unfold MapIs
    rw [Below.heap_alloc _ _ _ (by simp)]
    exact heap_alloc_new w _
  have hbx0 : w0.heap[w.heap.size + 1]? = some (.cells #[.map (some w.heap.size)] 58 (0, 0)) := by
    rw [hw0]
    have := heap_alloc_new (w.alloc (.map #[] 0)) (.cells #[.map (some w.heap.size)] 58)
    simpa using this
  have hsz0 : w0.heap.size = w.heap.size + 2 := by rw [hw0]; simp
  rw [← hw0]
  have HB0 := Lib.hid hb0
  have HM0 := Lib.hid hmap0
  have HX0 := Lib.hid hbx0
  have HS0 := Lib.hid hsz0
  clear hw0 hb0 hmap0 hbx0 hsz0
  go_loopw [13] (fun i wr => ∃ k : Nat, k ≤ n ∧ i = .int .i64 k ∧ MapIs wr N w.heap.size k ∧ Kept (fun b => b = w.heap.size) w0 wr) (fun i _ => n - (intOf i).toNat)
  case atStart => exact ⟨0, Nat.zero_le _, rfl, HM0.out, Kept.refl _ _⟩
  case round =>
    obtain ⟨k, hk, rfl, hmi, hkp⟩ := hrel
    have hbox : wr.cell? ⟨w.heap.size + 1, 0, none⟩ = some (.map (some w.heap.size)) :=
      block_cell (by rw [hkp.block _ (by rw [HS0.out]; omega) (by omega)]; exact HX0.out) rfl
    have hrep : Rep wr N n G := (HR0.out.kept (Kept.of_below (S := fun _ => False) HB0.out) (fun _ _ => id)).kept hkp (fun i hi => by have := HR0.out.lt hi; omega)
    have HR := Lib.hid hrep
    have HMI := Lib.hid hmi
    have HKP := Lib.hid hkp
    clear hrep hmi hkp
    by_cases hlt : k < n
    · obtain ⟨rfl, hog, -, hocell⟩ := HOC.out (by omega)
      have hcell : wr.cell? ⟨og, k, none⟩ = some (.iface 77 (.pointer (some ⟨N k, 0, none⟩))) := by
        have h1 : w.cell? ⟨og, k, none⟩ = some (nv N (some k)) := by rw [hocell k (by omega)]; simp [hlt]
        exact HKP.out.cell ((HB0.out.cell (p := ⟨og, k, none⟩) hog).trans h1) (by simp; omega)
      obtain ⟨w1, hrun, hm1, hk1⟩ := map_store HR.out hlt HMI.out
      have HN := Lib.hid (And.intro hm1 (HKP.out.trans hk1))
      clear hm1 hk1 hocell hog
      go_wp2
      go_roundw
      case rel => exact ⟨k + 1, by omega, by go_num, HN.out.1, HN.out.2⟩
      case measure => simp [intOf]; omega
    · obtain rfl : k = n := by omega
      obtain ⟨wo, rfl⟩ : ∃ wo : World, wo = wr := ⟨_, rfl⟩
      have hle : w.heap.size ≤ wo.heap.size := Nat.le_trans HB0.out.size HKP.out.size
      have hxlt : w.heap.size + 1 < wo.heap.size := by have := HKP.out.size; have := HS0.out; omega
      go_wp2_with fail
      have hrow2 : wo.ownsRow 0 60 1 (.slice oo k ocap) k ((List.range k).map fun i => nv N (some i)) := by
        have h1 := Kept.row (Kept.of_below (S := fun _ => False) HB0.out) HROW.out (fun _ _ => id)
        refine HKP.out.row (ownsRow_base h1 (Nat.zero_le _)) (fun g hg x => ?_)
        have := (HROW.out.lt g hg).2
        omega
      have HROW2 := Lib.hid hrow2
      clear hrow2
      go_loopw [7, 25] (fun o i wr => ∃ j : Nat, j ≤ k ∧ i = .int .i64 j ∧ wr.ownsRow wo.heap.size 44 7 o j ((List.range j).flatMap fun i => lkCells (G i)) ∧ Below wo.heap.size wo wr) (fun _ i _ => k - (intOf i).toNat)
      case atStart => exact ⟨0, Nat.zero_le _, rfl, World.ownsRow_nil _ _ _ _, Below.refl _ _⟩
      case round =>
        obtain ⟨j, hj, rfl, hown, hbw⟩ := hrel
        have hszr := hbw.size
        have HBW := Lib.hid hbw
        clear hbw
        by_cases hjl : j < k
        · obtain ⟨rfl, hog, -, hocell⟩ := HOC.out (by omega)
          have hcell : wr.cell? ⟨og, j, none⟩ = some (.iface 77 (.pointer (some ⟨N j, 0, none⟩))) := by
            have h1 : wo.cell? ⟨og, j, none⟩ = some (nv N (some j)) := by
              have := HROW2.out.cellAt j (by omega)
              rw [this]; simp [hjl]
            rw [HBW.out.cell (p := ⟨og, j, none⟩) (World.block_lt_of_cell? wo _ h1)]; exact h1
          have hbox2 : wr.cell? ⟨w.heap.size + 1, 0, none⟩ = some (.map (some w.heap.size)) := by
            rw [HBW.out.cell (p := ⟨w.heap.size + 1, 0, none⟩) hxlt]; exact hbox
          have hmi2 : MapIs wr N w.heap.size k := by
            unfold MapIs; rw [HBW.out.block _ (by omega)]; exact HMI.out
          have hrep2 : Rep wr N k G := HR.out.kept (Kept.of_below (S := fun _ => False) HBW.out) (fun _ _ => id)
          have HR2 := Lib.hid hrep2
          have HMI2 := Lib.hid hmi2
          clear hrep2 hmi2 hocell hog hbox
          go_wp2_with fail
          refine (get_parent HR2.out hjl rfl).mono ?_
          rintro e w' ⟨rfl, rfl⟩
          go_wp2_with fail
          refine (at_c HR2.out (G j).parent (HOK.out j hjl).2.2.1 hbox2 HMI2.out rfl).mono ?_
          rintro e w' ⟨rfl, rfl⟩
          go_wp2_with fail
          refine (get_first HR2.out hjl rfl).mono ?_
          rintro e w' ⟨rfl, rfl⟩
          go_wp2_with fail
          refine (at_c HR2.out (G j).first (HOK.out j hjl).1 hbox2 HMI2.out rfl).mono ?_
          rintro e w' ⟨rfl, rfl⟩
          go_wp2_with fail
          refine (get_last HR2.out hjl rfl).mono ?_
          rintro e w' ⟨rfl, rfl⟩
          go_wp2_with fail
          refine (at_c HR2.out (G j).last (HOK.out j hjl).2.1 hbox2 HMI2.out rfl).mono ?_
          rintro e w' ⟨rfl, rfl⟩
          go_wp2_with fail
          refine (get_next HR2.out hjl rfl).mono ?_
          rintro e w' ⟨rfl, rfl⟩
          go_wp2_with fail
          refine (at_c HR2.out (G j).next (HOK.out j hjl).2.2.2.1 hbox2 HMI2.out rfl).mono ?_
          rintro e w' ⟨rfl, rfl⟩
          go_wp2_with fail
          refine (get_prev HR2.out hjl rfl).mono ?_
          rintro e w' ⟨rfl, rfl⟩
          go_wp2_with fail
          refine (at_c HR2.out (G j).prev (HOK.out j hjl).2.2.2.2 hbox2 HMI2.out rfl).mono ?_
          rintro e w' ⟨rfl, rfl⟩
          go_wp2_with fail
          refine (get_count HR2.out hjl).mono ?_
          rintro e w' ⟨rfl, rfl⟩
          go_wp2_with fail
          refine (get_has HR2.out hjl).mono ?_
          rintro e w' ⟨rfl, rfl⟩
          go_wp2_with (at_builtin; refine wpList_append_own _ rfl _ _ 31 rfl wo.heap.size 44 i0 (.agg #[.int .i64 0, .int .i64 0, .int .i64 0, .int .i64 0, .int .i64 0, .int .i64 0, .bool false]) 7 56 Try.underlying31 hi hz0 hz1 hz2 rfl (by decide) _ _ _ rfl (hown.alloc _) ⟨wr.heap.size, 0, none⟩ 1 1 (lkCells (G j)) rfl rfl ?c1 ?c2 ?c3 ?c4 ?c5 ?_)
          case c1 => exact fun j1 u hu => World.news_of_block (heap_alloc_new wr (.cells (lkCells (G j)).toArray 44)) j1 u hu
          case c2 => intro u hu; simp [lkCells] at hu; rcases hu with rfl | rfl | rfl | rfl | rfl | rfl | rfl <;> rfl
          case c3 => unfold maxLen; omega
          case c4 => omega
          case c5 => simp; omega
          · intro v' w1 hown' hgrow _
            have hb1 : Below wo.heap.size wo w1 := (HBW.out.alloc hszr _).grown hgrow (by simp; omega) (fun b hb' => (hown.lt b hb').1)
            have HN := Lib.hid (And.intro hown' hb1)
            clear hown' hgrow hb1 hown
            go_wp2
            go_roundw
            case rel => exact ⟨j + 1, by omega, by go_num, by rw [List.range_succ, List.flatMap_append]; simpa using HN.out.1, HN.out.2⟩
            case measure => simp [intOf]; omega
        · obtain rfl : j = k := by omega
          go_wp2_with fail
          go_ret
          exact ⟨_, rfl, ownsRow_base hown hle, (HB0.out.trans (HKP.out.below HB0.out.size (fun b hb => by omega))).trans (HBW.out.mono hle)⟩
end Go.Proofs.Ytlggpodblabmdaa
