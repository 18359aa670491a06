/-
  What InsertBefore, InsertAfter, ReplaceChild and RemoveChildren do, by contracts; a lemma text, no statement of the seat.
-/
import Derived.Test.YtlggpodblabmdaaOpsB
import Derived.Deep.LoopGhost
import Derived.Lib.Hide
namespace Go.Proofs.Ytlggpodblabmdaa
open Go.RowKit

def inc (G : Nat → Nd) (i : Nat) : Nat → Nd := upd G i { G i with count := wrap64 ((G i).count + 1) }

/-- InsertBefore behind ensureIsolated: j goes between p and v. -/
def ins (G : Nat → Nd) (i v j : Nat) (p : Option Nat) : Nat → Nd :=
  let G1 := match p with | some p => upd G p { G p with next := some j } | none => upd G i { G i with first := some j }
  let G3 := upd G1 j { G1 j with prev := p }
  let G4 := upd G3 j { G3 j with next := some v }
  let G5 := upd G4 v { G4 v with prev := some j }
  upd G5 j { G5 j with parent := some i }

def insertBefore (G : Nat → Nd) (i v j : Nat) : Nat → Nd := ins (isolate (inc G i) j) i v j (isolate (inc G i) j v).prev

theorem Ok.inc {n : Nat} {G : Nat → Nd} (ok : Ok n G) (i : Nat) : Ok n (inc G i) := fun k hk => by
  have := ok k hk
  unfold Ytlggpodblabmdaa.inc upd
  by_cases e : k = i
  · subst e; simpa [upd_same] using this
  · simpa [e] using this

section
variable {w : World} {N : Nat → Nat} {n : Nat} {G : Nat → Nd}

theorem insert_o (h : Rep w N n G) (ok : Ok n G) {i j v : Nat} (hi : i < n) (hj : j < n) (hv : v < n) (hpar : (isolate (inc G i) j v).parent = some i) (hp : (isolate (inc G i) j v).prev = none) :
    Calls Try.prog 61 #[.pointer (some ⟨N i, 0, none⟩), .iface 77 (.pointer (some ⟨N i, 0, none⟩)), .iface 77 (.pointer (some ⟨N v, 0, none⟩)), .iface 77 (.pointer (some ⟨N j, 0, none⟩))] w fun e w' => e = .returned (.tuple #[]) ∧ Step N n w w' (ins (isolate (inc G i) j) i v j (none)) := by
  obtain ⟨cv, k5, s0⟩ := (Step.refl h).cnt hi
  have z5 := h.free hi 5
  have c := isolate_c s0.rep (ok.inc i) hj (v := .iface 77 (.pointer (some ⟨N j, 0, none⟩))) rfl
  clear h ok
  go_enter Try.func61, Try.ntmps61
  go_wp2_with fail
  refine c.mono ?_
  rintro e w1 ⟨rfl, s1⟩
  replace s1 := s0.trans s1
  clear c s0 k5 z5
  change Step N n w w1 (isolate (inc G i) j) at s1
  have c1 := get_parent s1.rep hv (v := .iface 77 (.pointer (some ⟨N i, 0, none⟩))) (by rw [hpar]; rfl)
  have c2 := get_prev s1.rep hv (v := .nilIface) (by rw [hp]; rfl)
  have hE := eql_nodes s1.rep hi hi (b := true) (by simp)
  clear hpar hp
  go_wp2_with fail
  refine c1.mono ?_
  rintro e w' ⟨rfl, rfl⟩
  clear c1
  go_wp2_with fail
  refine c2.mono ?_
  rintro e w' ⟨rfl, rfl⟩
  clear c2 hE
  have k0 := s1.at0 hi rfl
  have z0 := s1.rep.free hi 0
  have s2 := s1.setFirst hi (some j) (u := .iface 77 (.pointer (some ⟨N j, 0, none⟩))) rfl
  clear s1
  go_wp2_with fail
  refine (set_prev s2.rep hj (none) rfl).mono ?_
  rintro e w3 ⟨rfl, s3⟩
  replace s3 := s2.trans s3
  clear s2 k0 z0
  go_wp2_with fail
  refine (set_next s3.rep hj (some v) rfl).mono ?_
  rintro e w4 ⟨rfl, s4⟩
  replace s4 := s3.trans s4
  clear s3
  go_wp2_with fail
  refine (set_prev s4.rep hv (some j) rfl).mono ?_
  rintro e w5 ⟨rfl, s5⟩
  replace s5 := s4.trans s5
  clear s4
  go_wp2_with fail
  refine (set_parent s5.rep hj (some i) rfl).mono ?_
  rintro e w6 ⟨rfl, s6⟩
  replace s6 := s5.trans s6
  clear s5
  go_wp2_with fail
  go_end0
  exact ⟨rfl, s6⟩

theorem insert_p (h : Rep w N n G) (ok : Ok n G) {i j v : Nat} (hi : i < n) (hj : j < n) (hv : v < n) (hpar : (isolate (inc G i) j v).parent = some i) {p : Nat} (hpn : p < n) (hp : (isolate (inc G i) j v).prev = some p) :
    Calls Try.prog 61 #[.pointer (some ⟨N i, 0, none⟩), .iface 77 (.pointer (some ⟨N i, 0, none⟩)), .iface 77 (.pointer (some ⟨N v, 0, none⟩)), .iface 77 (.pointer (some ⟨N j, 0, none⟩))] w fun e w' => e = .returned (.tuple #[]) ∧ Step N n w w' (ins (isolate (inc G i) j) i v j (some p)) := by
  obtain ⟨cv, k5, s0⟩ := (Step.refl h).cnt hi
  have z5 := h.free hi 5
  have c := isolate_c s0.rep (ok.inc i) hj (v := .iface 77 (.pointer (some ⟨N j, 0, none⟩))) rfl
  clear h ok
  go_enter Try.func61, Try.ntmps61
  go_wp2_with fail
  refine c.mono ?_
  rintro e w1 ⟨rfl, s1⟩
  replace s1 := s0.trans s1
  clear c s0 k5 z5
  change Step N n w w1 (isolate (inc G i) j) at s1
  have c1 := get_parent s1.rep hv (v := .iface 77 (.pointer (some ⟨N i, 0, none⟩))) (by rw [hpar]; rfl)
  have c2 := get_prev s1.rep hv (v := .iface 77 (.pointer (some ⟨N p, 0, none⟩))) (by rw [hp]; rfl)
  have hE := eql_nodes s1.rep hi hi (b := true) (by simp)
  clear hpar hp
  go_wp2_with fail
  refine c1.mono ?_
  rintro e w' ⟨rfl, rfl⟩
  clear c1
  go_wp2_with fail
  refine c2.mono ?_
  rintro e w' ⟨rfl, rfl⟩
  clear c2 hE
  go_wp2_with fail
  refine (set_next s1.rep hpn (some j) rfl).mono ?_
  rintro e w2 ⟨rfl, s2⟩
  replace s2 := s1.trans s2
  clear s1
  go_wp2_with fail
  refine (set_prev s2.rep hj (some p) rfl).mono ?_
  rintro e w3 ⟨rfl, s3⟩
  replace s3 := s2.trans s3
  clear s2
  go_wp2_with fail
  refine (set_next s3.rep hj (some v) rfl).mono ?_
  rintro e w4 ⟨rfl, s4⟩
  replace s4 := s3.trans s4
  clear s3
  go_wp2_with fail
  refine (set_prev s4.rep hv (some j) rfl).mono ?_
  rintro e w5 ⟨rfl, s5⟩
  replace s5 := s4.trans s5
  clear s4
  go_wp2_with fail
  refine (set_parent s5.rep hj (some i) rfl).mono ?_
  rintro e w6 ⟨rfl, s6⟩
  replace s6 := s5.trans s6
  clear s5
  go_wp2_with fail
  go_end0
  exact ⟨rfl, s6⟩

theorem insert_c (h : Rep w N n G) (ok : Ok n G) {i j v : Nat} (hi : i < n) (hj : j < n) (hv : v < n) (hpar : (isolate (inc G i) j v).parent = some i) (hp : ∀ p, (isolate (inc G i) j v).prev = some p → p < n)
    {a b c : Value} (ha : nv N (some i) = a) (hb : nv N (some v) = b) (hc : nv N (some j) = c) :
    Calls Try.prog 61 #[.pointer (some ⟨N i, 0, none⟩), a, b, c] w fun e w' => e = .returned (.tuple #[]) ∧ Step N n w w' (insertBefore G i v j) := by
  rw [nv_some] at ha hb hc
  subst ha; subst hb; subst hc
  unfold insertBefore
  cases hq : (isolate (inc G i) j v).prev with
  | none => exact insert_o h ok hi hj hv hpar hq
  | some p => exact insert_p h ok hi hj hv hpar (hp p hq) hq

theorem after_c (h : Rep w N n G) (ok : Ok n G) {i j v x : Nat} (hi : i < n) (hj : j < n) (hv : v < n) (hx : x < n) (hvx : (G v).next = some x) (hpar : (isolate (inc G i) j x).parent = some i) (hp : ∀ p, (isolate (inc G i) j x).prev = some p → p < n) :
    Calls Try.prog 60 #[.pointer (some ⟨N i, 0, none⟩), .iface 77 (.pointer (some ⟨N i, 0, none⟩)), .iface 77 (.pointer (some ⟨N v, 0, none⟩)), .iface 77 (.pointer (some ⟨N j, 0, none⟩))] w fun e w' => e = .returned (.tuple #[]) ∧ Step N n w w' (insertBefore G i x j) := by
  have c := get_next h hv (v := .iface 77 (.pointer (some ⟨N x, 0, none⟩))) (by rw [hvx]; rfl)
  have c1 := insert_c h ok hi hj hx hpar hp rfl rfl rfl
  clear h ok hpar hp hvx
  go_enter Try.func60, Try.ntmps60
  go_wp2_with fail
  refine c.mono ?_
  rintro e w' ⟨rfl, rfl⟩
  clear c
  go_wp2_with fail
  refine c1.mono ?_
  rintro e w1 ⟨rfl, s1⟩
  clear c1
  go_wp2_with fail
  go_end0
  exact ⟨rfl, s1⟩

theorem replace_c (h : Rep w N n G) (ok : Ok n G) {i j v : Nat} (hi : i < n) (hj : j < n) (hv : v < n) (hpar : (isolate (inc G i) j v).parent = some i) (hp : ∀ p, (isolate (inc G i) j v).prev = some p → p < n) (ok' : Ok n (insertBefore G i v j)) :
    Calls Try.prog 74 #[.pointer (some ⟨N i, 0, none⟩), .iface 77 (.pointer (some ⟨N i, 0, none⟩)), .iface 77 (.pointer (some ⟨N v, 0, none⟩)), .iface 77 (.pointer (some ⟨N j, 0, none⟩))] w fun e w' => e = .returned (.tuple #[]) ∧ Step N n w w' (removeChild (insertBefore G i v j) i v) := by
  have c1 := insert_c h ok hi hj hv hpar hp rfl rfl rfl
  clear h ok hpar hp
  go_enter Try.func74, Try.ntmps74
  go_wp2_with fail
  refine c1.mono ?_
  rintro e w1 ⟨rfl, s1⟩
  clear c1
  go_wp2_with fail
  refine (remove_c s1.rep ok' hi hv rfl rfl).mono ?_
  rintro e w2 ⟨rfl, s2⟩
  replace s2 := s1.trans s2
  clear s1
  go_wp2_with fail
  go_end0
  exact ⟨rfl, s2⟩

/-- One round of RemoveChildren. -/
def clr1 (G : Nat → Nd) (k : Nat) : Nat → Nd :=
  let G1 := upd G k { G k with parent := none }
  let G2 := upd G1 k { G1 k with prev := none }
  upd G2 k { G2 k with next := none }

/-- The nodes ks, from 'c' on, each leading to the next one. -/
def Seg (n : Nat) (G : Nat → Nd) : Option Nat → List Nat → Prop
  | c, [] => c = none
  | c, k :: ks => c = some k ∧ k < n ∧ Seg n G (G k).next ks

theorem Seg.upd {d : Nd} {k : Nat} : ∀ (c : Option Nat) (ks : List Nat), k ∉ ks → Seg n G c ks → Seg n (upd G k d) c ks
  | _, [], _, h => h
  | c, x :: xs, hk, h => by
    obtain ⟨h1, h2, h3⟩ := h
    refine ⟨h1, h2, ?_⟩
    rw [upd_other G d (fun e => hk (by rw [e]; exact .head _))]
    exact Seg.upd _ xs (fun e => hk (.tail _ e)) h3

def clears (G : Nat → Nd) : List Nat → Nat → Nd
  | [] => G
  | k :: ks => clears (clr1 G k) ks

def removeAll (G : Nat → Nd) (i : Nat) (ks : List Nat) : Nat → Nd :=
  let G0 := clears G ks
  let G1 := upd G0 i { G0 i with first := none }
  let G2 := upd G1 i { G1 i with last := none }
  upd G2 i { G2 i with count := 0 }

/-- What holds at a round's head of RemoveChildren: m children are still to come. -/
def Clearing (N : Nat → Nat) (n : Nat) (G : Nat → Nd) (ks : List Nat) (w : World) (m : Nat) (c : Value) (wr : World) : Prop :=
  ∃ rest G' o, rest.length = m ∧ c = nv N o ∧ Seg n G' o rest ∧ rest.Nodup ∧ Step N n w wr G' ∧ clears G' rest = clears G ks

set_option maxHeartbeats 400000 in
theorem remove_children (h : Rep w N n G) {i : Nat} (hi : i < n) {ks : List Nat} (hs : Seg n G (G i).first ks) (hnd : ks.Nodup) :
    Calls Try.prog 73 #[.pointer (some ⟨N i, 0, none⟩), .iface 77 (.pointer (some ⟨N i, 0, none⟩))] w fun e w' => e = .returned (.tuple #[]) ∧ Step N n w w' (removeAll G i ks) := by
  have H0 : Clearing N n G ks w ks.length (nv N (G i).first) w := ⟨ks, G, _, rfl, rfl, hs, hnd, Step.refl h, rfl⟩
  obtain ⟨f0, hf0⟩ : ∃ f0, nv N (G i).first = f0 := ⟨_, rfl⟩
  rw [hf0] at H0
  have k0 := (Step.refl h).at0 hi hf0
  clear hs hnd hf0 h
  go_enter Try.func73, Try.ntmps73
  go_wp2
  go_loopg [4] ks.length (fun m c wr => Clearing N n G ks w m c wr)
  case atStart => exact H0
  case round =>
    obtain ⟨rest, G', o, hm, rfl, hseg, hnd, hst, hcl⟩ := hrel
    cases rest with
    | nil =>
      obtain rfl : o = none := hseg
      rw [nv_none]
      clear hm hnd k0 H0
      obtain ⟨f1, k0⟩ : ∃ u, wr.cell? ⟨N i, 0, none⟩ = some u := ⟨_, hst.at0 hi rfl⟩
      obtain ⟨f2, k1⟩ := hst.some1 hi
      obtain ⟨cv, k5, -⟩ := hst.cnt hi
      have z0 := hst.rep.free hi 0
      have z1 := hst.rep.free hi 1
      have z5 := hst.rep.free hi 5
      have s3 := ((hst.setFirst hi none rfl).setLast hi none rfl).setCount hi 0
      have HC := Lib.hid hcl
      clear hst hcl
      rw [nv_none] at s3
      go_wp2_with fail
      go_end0
      refine ⟨rfl, ?_⟩
      unfold removeAll
      rw [← HC.out]
      exact s3
    | cons k rest =>
      obtain ⟨rfl, hk, hseg⟩ := hseg
      rw [nv_some]
      obtain ⟨hkr, hnd⟩ := List.nodup_cons.1 hnd
      have HC := Lib.hid hcl
      have HM := Lib.hid hm
      clear hcl hm H0 k0
      have hnx : nv N (upd (upd G' k { G' k with parent := none }) k { (upd G' k { G' k with parent := none }) k with prev := none } k).next = nv N (G' k).next := by simp [upd_same]
      obtain ⟨nx, hnx'⟩ : ∃ nx, nv N (G' k).next = nx := ⟨_, rfl⟩
      have HX := Lib.hid hnx'
      rw [hnx'] at hnx
      have HN := Lib.hid hnx
      clear hnx hnx'
      have hsg : Seg n (clr1 G' k) (G' k).next rest := by
        have := ((hseg.upd (d := { G' k with parent := none }) _ _ hkr).upd (d := { (upd G' k { G' k with parent := none }) k with prev := none }) _ _ hkr)
        exact this.upd _ _ hkr
      clear hseg
      go_wp2_with fail
      refine (set_parent hst.rep hk none rfl).mono ?_
      rintro e w1 ⟨rfl, s1⟩
      replace s1 := hst.trans s1
      clear hst
      go_wp2_with fail
      refine (set_prev s1.rep hk none rfl).mono ?_
      rintro e w2 ⟨rfl, s2⟩
      replace s2 := s1.trans s2
      clear s1
      go_wp2_with fail
      refine (get_next s2.rep hk HN.out).mono ?_
      rintro e w' ⟨rfl, rfl⟩
      go_wp2_with fail
      refine (set_next s2.rep hk none rfl).mono ?_
      rintro e w3 ⟨rfl, s3⟩
      replace s3 := s2.trans s3
      clear s2
      go_wp2_with fail
      go_roundg rest.length
      case measure => rw [← HM.out]; simp
      case rel => exact ⟨rest, clr1 G' k, _, rfl, HX.out.symm, hsg, hnd, s3, HC.out⟩
end
end Go.Proofs.Ytlggpodblabmdaa
