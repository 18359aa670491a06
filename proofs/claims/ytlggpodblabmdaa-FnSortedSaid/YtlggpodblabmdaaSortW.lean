/-
  What SortChildren does, by a contract; a lemma text, no statement of the seat.
-/
import Derived.Test.YtlggpodblabmdaaCompare
import Derived.StillTailTactics
import Derived.Deep.LoopGhost
namespace Go.Proofs.Ytlggpodblabmdaa
open Go.RowKit

/-- At the head of a round of SortChildren: ss stand sorted, m nodes are to come. -/
def Sorting (w0 : World) (N : Nat → Nat) (n : Nat) (rk : Nat → Nat) (ks : List Nat) (m : Nat) (s c : Value) (wr : World) : Prop :=
  ∃ ss rest G, rest.length = m ∧ s = nv N ss.head? ∧ c = nv N rest.head? ∧ Seg n G ss.head? ss ∧ Seg n G rest.head? rest ∧ (ss ++ rest).Perm ks ∧ SortedBy rk ss ∧ Step N n w0 wr G

/-- At the head of a round of the search for x's place: all up to c rank below x, m nodes stand behind c. -/
def Seeking (w0 : World) (N : Nat → Nat) (n : Nat) (rk : Nat → Nat) (ss : List Nat) (x : Nat) (G : Nat → Nd) (m : Nat) (v : Value) (wr : World) : Prop :=
  ∃ a c b, ss = a ++ c :: b ∧ b.length = m ∧ v = .iface 77 (.pointer (some ⟨N c, 0, none⟩)) ∧ (∀ y ∈ a ++ [c], rk y < rk x) ∧ Step N n w0 wr G

/-- At the head of a round of the last loop: the nodes suf are to come. -/
def Lasting (w0 : World) (N : Nat → Nat) (n p : Nat) (ss : List Nat) (G : Nat → Nd) (m : Nat) (v : Value) (wr : World) : Prop :=
  ∃ pre suf G', ss = pre ++ suf ∧ suf.length = m ∧ v = nv N suf.head? ∧ (∀ y, (G' y).next = (G y).next) ∧ (G' p).first = ss.head? ∧ Step N n w0 wr G'

/-- What SortChildren leaves. -/
def SortPost (w : World) (N : Nat → Nat) (n p : Nat) (rk : Nat → Nat) (ks : List Nat) (e : Ending) (w' : World) : Prop :=
  e = .returned (.tuple #[]) ∧ ∃ ss G, (G p).first = ss.head? ∧ Seg n G ss.head? ss ∧ ss.Perm ks ∧ SortedBy rk ss ∧ Step N n w w' G

@[go_sem] theorem nilAhead_set (a : Addr) (w : World) : (nilAhead 247 77 (.pointer (some a)) "SetNextSibling").run Try.prog w = .ok (some false) w := by kernel_rfl

section
variable {w w' : World} {N : Nat → Nat} {n : Nat} {G : Nat → Nd} {b7 b10 r g cap : Nat} {rk : Nat → Nat}

theorem Step.drewN {w0 : World} (s : Step N n w0 w G) (q : Nat) : Step N n w0 (w.drewN q) G := ⟨s.rep.drewN q, s.kept.drewN q⟩

set_option maxRecDepth 100000 in
set_option maxHeartbeats 1600000 in
theorem sort_c (h : Rep w N n G) (hc : CmpSt w N n b7 b10 r g cap rk) {p : Nat} (hp : p < n) {ks : List Nat} (hs : Seg n G (G p).first ks) (hnd : ks.Nodup) :
    Calls Try.prog 83 #[.pointer (some ⟨N p, 0, none⟩), .func (.func 25) #[] #[.pointer (some ⟨b7, 0, none⟩), .pointer (some ⟨b10, 0, none⟩)]] w (SortPost w N n p rk ks) := by
  obtain ⟨f0, hf0⟩ : ∃ f0, nv N (G p).first = f0 := ⟨_, rfl⟩
  have k0 := (Step.refl h).at0 hp hf0
  have H0 := Lib.hid (show Sorting w N n rk ks ks.length .nilIface f0 w from ⟨[], ks, G, rfl, rfl, by rw [← hs.head, hf0], rfl, by rw [← hs.head]; exact hs, by simp, List.Pairwise.nil, Step.refl h⟩)
  have HC := Lib.hid hc
  have HND := Lib.hid hnd
  clear h hc hs hnd hf0
  go_enter Try.func83, Try.ntmps83
  go_wp2_with fail
  go_loopg [4, 5] ks.length (fun m s c wr => Sorting w N n rk ks m s c wr)
  case atStart => exact H0.out
  case round =>
    obtain ⟨ss, rest, G1, hm, rfl, rfl, hss, hrest, hperm, hsorted, hst⟩ := hrel
    have HSS := Lib.hid hss
    have HP := Lib.hid hperm
    have HSO := Lib.hid hsorted
    have HM := Lib.hid hm
    cases rest with
    | nil =>
      obtain ⟨sv, hsv⟩ : ∃ sv, nv N ss.head? = sv := ⟨_, rfl⟩
      obtain ⟨f1, k0⟩ : ∃ u, wr.cell? ⟨N p, 0, none⟩ = some u := ⟨_, hst.at0 hp rfl⟩
      have z0 := hst.rep.free hp 0
      have s1 := hst.setFirst hp ss.head? hsv
      change Step N n w _ (s_first G1 p ss.head?) at s1
      have HL := Lib.hid (show Lasting w N n p ss G1 ss.length sv (wr.setCell ⟨N p, 0, none⟩ sv) from ⟨[], ss, _, rfl, rfl, hsv.symm, fun y => by simp, by simp, s1⟩)
      rw [hsv]
      have HSV := Lib.hid hsv
      clear hss hrest hperm hsorted hm H0 hst s1 hsv
      simp only [List.head?_nil, nv_none]
      have hst0 : sv = .nilIface ∨ ∃ y, sv = .iface 77 (.pointer (some ⟨N y, 0, none⟩)) := by
        rw [← HSV.out]
        cases ss.head? with
        | none => exact .inl rfl
        | some y => exact .inr ⟨y, rfl⟩
      rcases hst0 with rfl | ⟨y, rfl⟩
      all_goals
        go_wp2_with fail
        clear k0 z0
        go_loopg [8] ss.length (fun m v wq => Lasting w N n p ss G1 m v wq)
        case atStart => exact HL.out
        case round =>
          obtain ⟨pre, suf, G2, hsp, hm2, rfl, hnx, hfi, hst2⟩ := hrel
          have HA := Lib.hid (And.intro hsp (And.intro hm2 (And.intro hnx hfi)))
          have HST2 := Lib.hid hst2
          clear hsp hm2 hnx hfi hst2 HL
          cases suf with
          | nil =>
            simp only [List.head?_nil, nv_none]
            go_wp2_with fail
            go_end0
            exact ⟨rfl, ss, G2, HA.out.2.2.2, HSS.out.congr (fun y _ => HA.out.2.2.1 y), by have := HP.out; simpa using this, HSO.out, HST2.out⟩
          | cons y suf =>
            have hyn : y < n := HSS.out.mem_lt y (by rw [HA.out.1]; simp)
            have hyx : (G1 y).next = suf.head? := by have := HSS.out; rw [HA.out.1] at this; exact this.nextOf
            have HYX := Lib.hid hyx
            clear hyx
            simp only [List.head?_cons, nv_some]
            obtain ⟨f1, k1⟩ : ∃ u, wr.cell? ⟨N p, 1, none⟩ = some u := ⟨_, HST2.out.at1 hp rfl⟩
            have z1 := HST2.out.rep.free hp 1
            have s3 := HST2.out.setLast hp (some y) (u := .iface 77 (.pointer (some ⟨N y, 0, none⟩))) rfl
            change Step N n w _ (s_last G2 p (some y)) at s3
            have S3 := Lib.hid s3
            clear s3
            go_wp2_with fail
            refine (get_next S3.out.rep hyn (v := nv N suf.head?) (by simp [HA.out.2.2.1, HYX.out])).mono ?_
            rintro e w' ⟨rfl, rfl⟩
            go_wp2_with fail
            go_roundg suf.length
            case measure => rw [← HA.out.2.1]; simp
            case rel => exact ⟨pre ++ [y], suf, _, by rw [HA.out.1]; simp, rfl, rfl, fun u => by simp [HA.out.2.2.1], by simp [HA.out.2.2.2], S3.out⟩
    | cons x rest =>
      obtain ⟨-, hx, hrest⟩ := hrest
      have HR := Lib.hid hrest
      have HST := Lib.hid hst
      clear hss hrest hperm hsorted hm k0 H0 hst
      simp only [List.head?_cons, nv_some]
      go_wp2_with fail
      refine (get_next HST.out.rep hx rfl).mono ?_
      rintro e w' ⟨rfl, rfl⟩
      rw [HR.out.head]
      have HNX := Lib.hid (show x ∉ ss ∧ x ∉ rest from by
        have := (List.nodup_append.1 (HP.out.nodup_iff.2 HND.out))
        exact ⟨fun h => this.2.2 x h x (.head _) rfl, (List.nodup_cons.1 this.2.1).1⟩)
      cases ss with
      | nil =>
        simp only [List.head?_nil, nv_none]
        go_wp2_with fail
        refine (set_next HST.out.rep hx none rfl).mono ?_
        rintro e w1 ⟨rfl, s1⟩
        replace s1 := HST.out.trans s1
        change Step N n w w1 (s_next G1 x none) at s1
        have S1 := Lib.hid s1
        clear s1
        go_wp2_with fail
        refine (set_prev S1.out.rep hx none rfl).mono ?_
        rintro e w2 ⟨rfl, s2⟩
        replace s2 := S1.out.trans s2
        change Step N n w w2 (s_prev (s_next G1 x none) x none) at s2
        have S2 := Lib.hid s2
        clear s2 S1
        have HF := Lib.hid (show Sorting w N n rk ks rest.length (.iface 77 (.pointer (some ⟨N x, 0, none⟩))) (nv N rest.head?) w2 from
          ⟨[x], rest, _, rfl, rfl, rfl, seg_front HSS.out hx (by simp) (fun y hy => by simp [show y ≠ x from fun e => HNX.out.1 (e ▸ hy)]), (Seg.congr (HR.out.head ▸ HR.out) (fun y hy => by simp [show y ≠ x from fun e => HNX.out.2 (e ▸ hy)])), perm_front HP.out, sorted_front HSO.out (fun s hs => by cases hs), S2.out⟩)
        go_wp2_with fail
        go_roundg rest.length
        case measure => rw [← HM.out]; simp
        case rel => exact HF.out
      | cons s ss =>
        simp only [List.head?_cons, nv_some]
        have hsn : s < n := HSS.out.2.1
        obtain ⟨z, hz⟩ : ∃ z : Int, (rk s : Int) - (rk x : Int) = z := ⟨_, rfl⟩
        have HZ := Lib.hid hz
        have hcmp := compare_z HST.out.rep (HC.out.kept HST.out.kept) hsn hx hz
        by_cases hle : rk x ≤ rk s
        · have hz0 : 0 ≤ z := by omega
          have HLE := Lib.hid hle
          clear hz hle
          go_wp2_with fail
          refine hcmp.mono ?_
          rintro e w0 ⟨rfl, q, rfl⟩
          have HST1 := Lib.hid (HST.out.drewN q)
          clear HST hcmp
          go_wp2_with fail
          refine (set_next HST1.out.rep hx (some s) rfl).mono ?_
          rintro e w1 ⟨rfl, s1⟩
          replace s1 := HST1.out.trans s1
          change Step N n w w1 (s_next G1 x (some s)) at s1
          have S1 := Lib.hid s1
          clear s1
          go_wp2_with fail
          refine (set_prev S1.out.rep hsn (some x) rfl).mono ?_
          rintro e w2 ⟨rfl, s2⟩
          replace s2 := S1.out.trans s2
          change Step N n w w2 (s_prev (s_next G1 x (some s)) s (some x)) at s2
          have S2 := Lib.hid s2
          clear s2 S1
          go_wp2_with fail
          refine (set_prev S2.out.rep hx none rfl).mono ?_
          rintro e w3 ⟨rfl, s3⟩
          replace s3 := S2.out.trans s3
          change Step N n w w3 (s_prev (s_prev (s_next G1 x (some s)) s (some x)) x none) at s3
          have S3 := Lib.hid s3
          clear s3 S2
          have HF := Lib.hid (show Sorting w N n rk ks rest.length (.iface 77 (.pointer (some ⟨N x, 0, none⟩))) (nv N rest.head?) w3 from
            ⟨x :: s :: ss, rest, _, rfl, rfl, rfl, seg_front HSS.out hx (by simp) (fun y hy => by simp [show y ≠ x from fun e => HNX.out.1 (e ▸ hy)]), (Seg.congr (HR.out.head ▸ HR.out) (fun y hy => by simp [show y ≠ x from fun e => HNX.out.2 (e ▸ hy)])), perm_front HP.out, sorted_front HSO.out (fun s' hs => by cases hs; exact HLE.out), S3.out⟩)
          go_wp2_with fail
          go_roundg rest.length
          case measure => rw [← HM.out]; simp
          case rel => exact HF.out
        · have hz0 : z < 0 := by omega
          have HLT := Lib.hid hle
          clear hz hle
          go_wp2_with fail
          refine hcmp.mono ?_
          rintro e w0 ⟨rfl, q, rfl⟩
          have HST1 := Lib.hid (HST.out.drewN q)
          clear HST hcmp
          go_wp2_with fail
          generalize wr.drewN q = wo at HST1 ⊢
          have HSK := Lib.hid (show Seeking w N n rk (s :: ss) x G1 ss.length (.iface 77 (.pointer (some ⟨N s, 0, none⟩))) wo from ⟨[], s, ss, rfl, rfl, rfl, by simp; have := HLT.out; omega, HST1.out⟩)
          clear HST1
          go_loopg [7] ss.length (fun m v wq => Seeking w N n rk (s :: ss) x G1 m v wq)
          case atStart => exact HSK.out
          case round =>
            obtain ⟨a, c, b, hss, hm, rfl, hlow, hst⟩ := hrel
            have HST := Lib.hid hst
            have HB := Lib.hid (And.intro hss (And.intro hm hlow))
            have hcn : c < n := HSS.out.mem_lt c (by rw [hss]; simp)
            have hnx : (G1 c).next = b.head? := by have := HSS.out; rw [hss] at this; exact this.nextOf
            have HNC := Lib.hid hnx
            clear hss hm hlow hst HSK
            have cn := get_next HST.out.rep hcn (v := nv N b.head?) (by rw [hnx])
            clear hnx
            have hcx : c ≠ x := fun e => HNX.out.1 (by rw [HB.out.1]; simp [e])
            cases b with
            | nil =>
              simp only [List.head?_nil, nv_none] at cn
              go_wp2_with fail
              refine cn.mono ?_
              rintro e w' ⟨rfl, rfl⟩
              clear cn
              obtain ⟨wi, hwi⟩ : ∃ wi : World, wi = wr := ⟨_, rfl⟩
              rw [← hwi] at HST ⊢
              clear hwi
              go_wp2_with fail
              have hmf : ∀ (fn : Fn) (first cap : Array Value) (w : World), (Instr.makeFunc fn first cap).run Try.prog w = .ok (.func fn first cap) w := fun _ _ _ _ => rfl
              have cd : Calls Try.prog 66 #[.pointer (some ⟨N c, 0, none⟩)] wi.drew fun e w'' => e = .returned (.nilIface) ∧ w'' = wi.drew := (get_next (HST.out.drewN 1).rep hcn (v := .nilIface) (by rw [HNC.out]; rfl)).mono fun e w'' h => ⟨h.1, h.2.symm⟩
              go_still_tail 6, (by kernel_rfl)
              still_call cd
              repeat still_step
              refine wpStill_nil ?_
              change wpList _ _ _ _ _ wi.drew
              have HST2 := Lib.hid (HST.out.drewN 1)
              change Hid (Step N n w wi.drew G1) at HST2
              generalize wi.drew = wj at HST2 ⊢
              clear HST cd hmf
              go_wp2_with fail
              refine (set_next HST2.out.rep hx none rfl).mono ?_
              rintro e w1 ⟨rfl, s1⟩
              replace s1 := HST2.out.trans s1
              change Step N n w w1 (s_next G1 x none) at s1
              have S1 := Lib.hid s1
              clear s1 HST2
              go_wp2_with fail
              refine (set_prev S1.out.rep hx (some c) rfl).mono ?_
              rintro e w2 ⟨rfl, s2⟩
              replace s2 := S1.out.trans s2
              change Step N n w w2 (s_prev (s_next G1 x none) x (some c)) at s2
              have S2 := Lib.hid s2
              clear s2 S1
              have c2 := get_next S2.out.rep hcn (v := .nilIface) (by simp [hcx, HNC.out]; try rfl)
              go_wp2_with fail
              refine c2.mono ?_
              rintro e w' ⟨rfl, rfl⟩
              clear c2
              go_wp2_with fail
              refine (set_next S2.out.rep hcn (some x) rfl).mono ?_
              rintro e w4 ⟨rfl, s4⟩
              replace s4 := S2.out.trans s4
              change Step N n w w4 (s_next (s_prev (s_next G1 x none) x (some c)) c (some x)) at s4
              have S4 := Lib.hid s4
              clear s4 S2
              have HF := Lib.hid (show Sorting w N n rk ks rest.length (.iface 77 (.pointer (some ⟨N s, 0, none⟩))) (nv N rest.head?) w4 from by
                have hss := HB.out.1
                have hseg := HSS.out
                have hso := HSO.out
                have hpe := HP.out
                have hnx := HNX.out.1
                have hnd : (a ++ c :: []).Nodup := by rw [← hss]; exact (List.nodup_append.1 (hpe.nodup_iff.2 HND.out)).1
                have hca : ∀ u ∈ a ++ [], u ≠ c := fun u hu e => by
                  subst e
                  exact (List.nodup_cons.1 (List.perm_middle.nodup_iff.1 hnd)).1 hu
                have hh2 : (a ++ c :: []).head? = (a ++ c :: x :: []).head? := by cases a <;> rfl
                rw [hss] at hseg hso hpe hnx
                have hh : (s :: ss).head? = (a ++ c :: x :: []).head? := by rw [hss]; cases a <;> rfl
                refine ⟨a ++ c :: x :: [], rest, _, rfl, by rw [← hh]; rfl, rfl, ?_, Seg.congr (HR.out.head ▸ HR.out) (fun u hu => ?_), perm_ins hpe, sorted_ins ?_ hso (fun u hu => Nat.le_of_lt (HB.out.2.2 u hu)), S4.out⟩
                · rw [← hh2]
                  refine seg_ins hx (by simp) ?_ hseg (fun u hu => ?_)
                  · simp [Ne.symm hcx, HNC.out]
                  · have h1 : u ≠ x := fun e => hnx (by subst e; simp only [List.mem_append, List.mem_cons] at hu ⊢; rcases hu with h | h; exact .inl h; exact .inr (.inr h))
                    simp [h1, hca u hu]
                · have h1 : u ≠ x := fun e => HNX.out.2 (e ▸ hu)
                  have h2 : u ≠ c := fun e => by
                    have := (List.nodup_append.1 (hpe.nodup_iff.2 HND.out)).2.2 c (by simp) u (.tail _ hu)
                    exact this e.symm
                  simp [h1, h2]
                · intro u hu
                  cases hu)
              go_wp2_with fail
              go_roundg rest.length
              case measure => rw [← HM.out]; simp
              case rel => exact HF.out
            | cons y b =>
              simp only [List.head?_cons, nv_some] at cn
              have hyn : y < n := HSS.out.mem_lt y (by rw [HB.out.1]; simp)
              obtain ⟨z2, hz2⟩ : ∃ z2 : Int, (rk y : Int) - (rk x : Int) = z2 := ⟨_, rfl⟩
              have hcmp := compare_z HST.out.rep (HC.out.kept HST.out.kept) hyn hx hz2
              by_cases hlt : rk y < rk x
              · have hz20 : z2 < 0 := by omega
                have HLT2 := Lib.hid hlt
                clear hz2 hlt
                go_wp2_with fail
                refine cn.mono ?_
                rintro e w' ⟨rfl, rfl⟩
                go_wp2_with fail
                refine cn.mono ?_
                rintro e w' ⟨rfl, rfl⟩
                clear cn
                go_wp2_with fail
                refine hcmp.mono ?_
                rintro e w0 ⟨rfl, q2, rfl⟩
                have HST1 := Lib.hid (HST.out.drewN q2)
                clear HST hcmp
                have cn := get_next HST1.out.rep hcn (v := .iface 77 (.pointer (some ⟨N y, 0, none⟩))) (by rw [HNC.out]; rfl)
                go_wp2_with fail
                refine cn.mono ?_
                rintro e w' ⟨rfl, rfl⟩
                clear cn
                go_wp2_with fail
                go_roundg b.length
                case measure => rw [← HB.out.2.1]; simp
                case rel => exact ⟨a ++ [c], y, b, by rw [HB.out.1]; simp, rfl, rfl, fun u hu => by
                  rcases List.mem_append.1 hu with h | h
                  · exact HB.out.2.2 u h
                  · rw [List.mem_singleton] at h; subst h; exact HLT2.out, HST1.out⟩
              · have hz20 : 0 ≤ z2 := by omega
                have HGE := Lib.hid (Nat.le_of_not_lt hlt)
                clear hz2 hlt
                go_wp2_with fail
                refine cn.mono ?_
                rintro e w' ⟨rfl, rfl⟩
                go_wp2_with fail
                refine cn.mono ?_
                rintro e w' ⟨rfl, rfl⟩
                clear cn
                go_wp2_with fail
                refine hcmp.mono ?_
                rintro e w0 ⟨rfl, q2, rfl⟩
                have HST1 := Lib.hid (HST.out.drewN q2)
                clear HST hcmp
                obtain ⟨wi, hwi⟩ : ∃ wi : World, wi = wr.drewN q2 := ⟨_, rfl⟩
                rw [← hwi] at HST1 ⊢
                clear hwi
                have HST := HST1
                clear HST1
                go_wp2_with fail
                have hmf : ∀ (fn : Fn) (first cap : Array Value) (w : World), (Instr.makeFunc fn first cap).run Try.prog w = .ok (.func fn first cap) w := fun _ _ _ _ => rfl
                have cd : Calls Try.prog 66 #[.pointer (some ⟨N c, 0, none⟩)] wi.drew fun e w'' => e = .returned (.iface 77 (.pointer (some ⟨N y, 0, none⟩))) ∧ w'' = wi.drew := (get_next (HST.out.drewN 1).rep hcn (v := .iface 77 (.pointer (some ⟨N y, 0, none⟩))) (by rw [HNC.out]; rfl)).mono fun e w'' h => ⟨h.1, h.2.symm⟩
                go_still_tail 6, (by kernel_rfl)
                still_call cd
                repeat still_step
                refine wpStill_nil ?_
                change wpList _ _ _ _ _ wi.drew
                have HST2 := Lib.hid (HST.out.drewN 1)
                change Hid (Step N n w wi.drew G1) at HST2
                generalize wi.drew = wj at HST2 ⊢
                clear HST cd hmf
                go_wp2_with fail
                refine (set_next HST2.out.rep hx (some y) rfl).mono ?_
                rintro e w1 ⟨rfl, s1⟩
                replace s1 := HST2.out.trans s1
                change Step N n w w1 (s_next G1 x (some y)) at s1
                have S1 := Lib.hid s1
                clear s1 HST2
                go_wp2_with fail
                refine (set_prev S1.out.rep hx (some c) rfl).mono ?_
                rintro e w2 ⟨rfl, s2⟩
                replace s2 := S1.out.trans s2
                change Step N n w w2 (s_prev (s_next G1 x (some y)) x (some c)) at s2
                have S2 := Lib.hid s2
                clear s2 S1
                have c2 := get_next S2.out.rep hcn (v := .iface 77 (.pointer (some ⟨N y, 0, none⟩))) (by simp [hcx, HNC.out]; try rfl)
                go_wp2_with fail
                refine c2.mono ?_
                rintro e w' ⟨rfl, rfl⟩
                go_wp2_with fail
                refine c2.mono ?_
                rintro e w' ⟨rfl, rfl⟩
                clear c2
                go_wp2_with fail
                refine (set_prev S2.out.rep hyn (some x) rfl).mono ?_
                rintro e w3 ⟨rfl, s3⟩
                replace s3 := S2.out.trans s3
                change Step N n w w3 (s_prev (s_prev (s_next G1 x (some y)) x (some c)) y (some x)) at s3
                have S3 := Lib.hid s3
                clear s3 S2
                go_wp2_with fail
                refine (set_next S3.out.rep hcn (some x) rfl).mono ?_
                rintro e w4 ⟨rfl, s4⟩
                replace s4 := S3.out.trans s4
                change Step N n w w4 (s_next (s_prev (s_prev (s_next G1 x (some y)) x (some c)) y (some x)) c (some x)) at s4
                have S4 := Lib.hid s4
                clear s4 S3
                have HF := Lib.hid (show Sorting w N n rk ks rest.length (.iface 77 (.pointer (some ⟨N s, 0, none⟩))) (nv N rest.head?) w4 from by
                  have hss := HB.out.1
                  have hseg := HSS.out
                  have hso := HSO.out
                  have hpe := HP.out
                  have hnx := HNX.out.1
                  have hnd : (a ++ c :: (y :: b)).Nodup := by rw [← hss]; exact (List.nodup_append.1 (hpe.nodup_iff.2 HND.out)).1
                  have hca : ∀ u ∈ a ++ (y :: b), u ≠ c := fun u hu e => by
                    subst e
                    exact (List.nodup_cons.1 (List.perm_middle.nodup_iff.1 hnd)).1 hu
                  have hh2 : (a ++ c :: (y :: b)).head? = (a ++ c :: x :: (y :: b)).head? := by cases a <;> rfl
                  rw [hss] at hseg hso hpe hnx
                  have hh : (s :: ss).head? = (a ++ c :: x :: (y :: b)).head? := by rw [hss]; cases a <;> rfl
                  refine ⟨a ++ c :: x :: (y :: b), rest, _, rfl, by rw [← hh]; rfl, rfl, ?_, Seg.congr (HR.out.head ▸ HR.out) (fun u hu => ?_), perm_ins hpe, sorted_ins ?_ hso (fun u hu => Nat.le_of_lt (HB.out.2.2 u hu)), S4.out⟩
                  · rw [← hh2]
                    refine seg_ins hx (by simp) ?_ hseg (fun u hu => ?_)
                    · simp [Ne.symm hcx, HNC.out]
                    · have h1 : u ≠ x := fun e => hnx (by subst e; simp only [List.mem_append, List.mem_cons] at hu ⊢; rcases hu with h | h; exact .inl h; exact .inr (.inr h))
                      simp [h1, hca u hu]
                  · have h1 : u ≠ x := fun e => HNX.out.2 (e ▸ hu)
                    have h2 : u ≠ c := fun e => by
                      have := (List.nodup_append.1 (hpe.nodup_iff.2 HND.out)).2.2 c (by simp) u (.tail _ hu)
                      exact this e.symm
                    simp [h1, h2]
                  · intro u hu
                    cases hu; exact HGE.out)
                go_wp2_with fail
                go_roundg rest.length
                case measure => rw [← HM.out]; simp
                case rel => exact HF.out
end
end Go.Proofs.Ytlggpodblabmdaa
