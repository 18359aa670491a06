/-
  laws.grown by a contract; a lemma text, no statement of the seat.
-/
import Derived.Test.YtlggpodblabmdaaFitN
import Derived.Test.YtlggpodblabmdaaOpen
namespace Go.Proofs.Ytlggpodblabmdaa
open Go.RowKit

theorem acyc_new : Acyc Gr.new := ⟨fun _ => 0, fun x p h => by cases h⟩

theorem Acyc.sub {T T' : Gr} (h : Acyc T) (hs : ∀ y p, T'.par y = some p → T.par y = some p) : Acyc T' := by
  obtain ⟨d, hd⟩ := h
  exact ⟨d, fun x p hp => hd x p (hs x p hp)⟩

theorem Acyc.hang {T T' : Gr} (h : Acyc T) {x q : Nat} (hab : ¬ Ab T x q) (hs : ∀ y p, T'.par y = some p → (y = x ∧ p = q) ∨ (y ≠ x ∧ T.par y = some p)) : Acyc T' := by
  obtain ⟨d, hd⟩ := h
  classical
  refine ⟨fun y => if Ab T x y then d y + d q + 1 else d y, fun y p hp => ?_⟩
  simp only
  rcases hs y p hp with ⟨rfl, rfl⟩ | ⟨hy, hp⟩
  · rw [if_neg hab, if_pos (Ab.self T y)]; omega
  · have hlt := hd y p hp
    by_cases h1 : Ab T x p
    · rw [if_pos h1, if_pos (Ab.up hp h1)]; omega
    · have h2 : ¬ Ab T x y := fun h => by
        rcases h.cases with e | ⟨p', hp', h'⟩
        · exact hy e.symm
        · rw [hp] at hp'; cases hp'; exact h1 h'
      rw [if_neg h1, if_neg h2]; exact hlt

theorem drop_par {T : Gr} {p i y q : Nat} (h : (T.drop p i).par y = some q) : T.par y = some q := by
  unfold Gr.drop at h
  simp only at h
  split at h
  · cases h
  · exact h
theorem put_par {T : Gr} {p i x y q : Nat} (h : (T.put p i x).par y = some q) : (y = x ∧ q = p) ∨ (y ≠ x ∧ T.par y = some q) := by
  unfold Gr.put at h
  simp only at h
  split at h
  · cases h; exact .inl ⟨by assumption, rfl⟩
  · exact .inr ⟨by assumption, h⟩
theorem clear_par {T : Gr} {p y q : Nat} (h : (T.clear p).par y = some q) : T.par y = some q := by
  unfold Gr.clear at h
  simp only at h
  split at h
  · cases h
  · exact h
theorem free_sub {n : Nat} {T : Gr} (hw : WF n T) {x y q : Nat} (h : (T.free x).par y = some q) : T.par y = some q := by
  rw [free_par hw] at h
  split at h
  · cases h
  · exact h

theorem acyc_act {n : Nat} {T : Gr} (hw : WF n T) (hac : Acyc T) (c : Ch) (hab : c.kind ≠ 1 → c.kind ≠ 2 → ¬ Ab T c.what c.inn) : Acyc (T.act c) := by
  unfold Gr.act
  split
  · split
    · exact hac.sub fun y p h => drop_par h
    · exact hac
  · split
    · exact hac.sub fun y p h => clear_par h
    · have hab' := hab (by assumption) (by assumption)
      split
      · refine hac.hang hab' fun y p h => ?_
        rcases put_par h with h | ⟨h1, h2⟩
        · exact .inl h
        · exact .inr ⟨h1, free_sub hw (drop_par h2)⟩
      · repeat' split
        all_goals
          refine hac.hang hab' fun y p h => ?_
          rcases put_par h with h | ⟨h1, h2⟩
          · exact .inl h
          · exact .inr ⟨h1, free_sub hw h2⟩

/-- What grown leaves. -/
def GrownPost (W : World) (n len : Nat) (e : Ending) (w' : World) : Prop :=
  ∃ a pb pc kb kc T cs K v, e = .returned (.tuple #[.pointer (some ⟨a, 0, none⟩), v]) ∧ GrS W n a pb pc kb kc T cs K v w' ∧ T = runs Gr.new cs ∧ Valids n Gr.new cs ∧ cs.length ≤ len ∧ Acyc T

/-- At a round's head of grown: j changes have been looked at. -/
def Growing (W : World) (n a pb pc kb kc j : Nat) (v : Value) (wr : World) : Prop :=
  ∃ T cs K, GrS W n a pb pc kb kc T cs K v wr ∧ T = runs Gr.new cs ∧ Valids n Gr.new cs ∧ cs.length ≤ j ∧ Acyc T

section
variable {W w w' : World} {n a pb pc kb kc j : Nat} {v : Value}

theorem Growing.skip (h : Growing W n a pb pc kb kc j v w) (hb : Below w.heap.size w w') : Growing W n a pb pc kb kc (j + 1) v w' := by
  obtain ⟨T, cs, K, hg, hT, hv, hl, hac⟩ := h
  exact ⟨T, cs, K, hg.over hb, hT, hv, by omega, hac⟩
end

set_option maxRecDepth 100000 in
set_option maxHeartbeats 1600000 in
theorem grown_c (W : World) (many : Int) (ao : Option Addr) (len cap : Nat) (m : Bool) (hlen : len ≤ 2147483647) (hin : Came W ao len) :
    Calls Try.prog 16 #[.int .i64 many, .slice ao len cap, .bool m] W (GrownPost W ((many % 12).toNat + 1) len) := by
  obtain ⟨i0, hi, hz0, hz1, hz2⟩ := info_parts Try.info29
  have hb1 := Int.emod_nonneg many (b := 12) (by decide)
  have hb2 := Int.emod_lt_of_pos many (b := 12) (by decide)
  obtain ⟨N, hN⟩ : ∃ N : Nat, many % 12 = N := ⟨(many % 12).toNat, by omega⟩
  have hN12 : N ≤ 11 := by omega
  rw [show (many % 12).toNat = N by omega]
  have HN := Lib.hid hN
  have HIN := Lib.hid hin
  clear hb1 hb2 hN hin
  go_enter Try.func16, Try.ntmps16
  go_wp2_with fail
  refine (place_c many 12 (by decide) (by decide) W).mono ?_
  rintro e w' ⟨rfl, rfl⟩
  simp only [show (((12 : Nat) : Int)) = 12 from rfl, HN.out]
  go_wp2_with fail
  simp only [show (1 : Int) + (N : Int) = ((N + 1 : Nat) : Int) by omega]
  ((with_reducible refine (new_grove W (N + 1) (by omega) (by omega)).mono ?_))
  rintro e w1 ⟨a, pb, pc, kb, kc, K, rfl, hgr, hb, ha, hp, hk, -⟩
  have HS := Lib.hid (show Growing W (N + 1) a pb pc kb kc 0 (.slice none 0 0) w1 from ⟨Gr.new, [], K, ⟨hgr, World.ownsRow_nil _ _ _ _, hb, ha, hp, hk⟩, rfl, trivial, Nat.le_refl _, acyc_new⟩)
  clear hgr hb ha hp hk
  go_wp2_with fail
  go_loopw [9, 20] (fun o i wr => ∃ j : Nat, j ≤ len ∧ i = .int .i64 j ∧ Growing W (N + 1) a pb pc kb kc j o wr) (fun _ i _ => len - (intOf i).toNat)
  case atStart => exact ⟨0, Nat.zero_le _, rfl, HS.out⟩
  case round =>
    obtain ⟨j, hj, rfl, hs⟩ := hrel
    have H1 := Lib.hid hs
    clear hs HS
    by_cases hjl : j < len
    · obtain ⟨b, off, rfl, hbl, hcell⟩ := HIN.out (by omega)
      obtain ⟨z0, z1, z2, z3, c0, c1, c2, c3⟩ := hcell j hjl
      have hbw : ∀ p : Addr, p.block = b → ∀ u, W.cell? p = some u → wr.cell? p = some u := fun p hp u hu => by
        obtain ⟨T, cs, K, hg, -⟩ := H1.out
        rw [hg.below.cell (p := p) (by rw [hp]; exact hbl)]; exact hu
      have c0 := hbw _ rfl _ c0
      have c1 := hbw _ rfl _ c1
      have c2 := hbw _ rfl _ c2
      have c3 := hbw _ rfl _ c3
      clear hbw hcell hbl
      go_wp2_with fail
      obtain ⟨T, cs, K1, hg, hT, hv, hl, hac⟩ := H1.out
      have hwf : WF (N + 1) T := by rw [hT]; exact valids_wf (N + 1) cs _ (wf_new (N + 1)) hv
      have HG := Lib.hid (hg.alloc (.cells #[.int .i64 z0, .int .i64 z1, .int .i64 z2, .int .i64 z3] 28))
      have HB1 := Lib.hid (show Below wr.heap.size wr (wr.alloc (.cells #[.int .i64 z0, .int .i64 z1, .int .i64 z2, .int .i64 z3] 28)) from (Below.refl _ _).alloc (Nat.le_refl _) _)
      have c := fit_c HG.out.gr hwf hac (by omega) (by omega) z0 z1 z2 z3 m
      generalize (z0 % 6).toNat = k at c
      generalize (z1 % ((N + 1 : Nat) : Int)).toNat = i at c
      generalize (z2 % ((N + 1 : Nat) : Int)).toNat = t at c
      generalize (z3 % ((N + 1 : Nat) : Int)).toNat = x at c
      have HWF := Lib.hid hwf
      have HT := Lib.hid (And.intro hT (And.intro hv (And.intro hl hac)))
      clear hg hT hv hl hac hwf c0 c1 c2 c3
      ((with_reducible refine c.mono ?_))
      clear c
      rintro e w2 ⟨ok, rfl, hb, hok⟩
      rw [show chV ⟨k, i, t, x⟩ = .agg #[.int .i64 k, .int .i64 i, .int .i64 t, .int .i64 x] from rfl]
      have HB2 := Lib.hid (show Below wr.heap.size wr (w2.alloc (.cells #[.int .i64 k, .int .i64 i, .int .i64 t, .int .i64 x] 28)) from by
        have h1 := HB1.out.trans (hb.mono HB1.out.size)
        exact h1.alloc h1.size _)
      have HGA := Lib.hid (HG.out.over hb)
      have HG2 := Lib.hid (HGA.out.alloc (.cells #[.int .i64 k, .int .i64 i, .int .i64 t, .int .i64 x] 28))
      have HOK := Lib.hid hok
      clear hb hok
      cases ok with
      | false =>
        go_wp2_with fail
        go_roundw
        case rel => exact ⟨j + 1, by omega, by go_num, H1.out.skip HB2.out⟩
        case measure => simp [intOf]; omega
      | true =>
        have hva := (HOK.out rfl).1
        have c := do_c HG2.out.gr HWF.out (by omega) hva
        rw [show chV ⟨k, i, t, x⟩ = .agg #[.int .i64 k, .int .i64 i, .int .i64 t, .int .i64 x] from rfl] at c
        have HV := Lib.hid hva
        clear hva
        go_wp2_with fail
        ((with_reducible refine c.mono ?_))
        clear c
        intro e w3 hp
        have hp' := hp
        obtain ⟨rfl, K3, h3⟩ := HG2.out.step hp
        obtain ⟨-, K4, -, hk⟩ := hp'
        have hbox : ∀ f u, (#[Value.int .i64 k, .int .i64 i, .int .i64 t, .int .i64 x] : Array Value)[f]? = some u → w3.cell? ⟨w2.heap.size, f, none⟩ = some u := fun f u hu => by
          refine hk.cell (p := ⟨w2.heap.size, f, none⟩) (block_cell (heap_alloc_new w2 _) hu) ?_
          have h1 := HGA.out.gr.pb_lt
          have h2 := HGA.out.gr.kb_lt
          rintro (e | e) <;> simp at e <;> omega
        have b0 := hbox 0 _ rfl
        have b1 := hbox 1 _ rfl
        have b2 := hbox 2 _ rfl
        have b3 := hbox 3 _ rfl
        have hrow := h3.row
        have hsz := h3.below.size
        have hcl := HT.out.2.2.1
        have H3 := Lib.hid h3
        clear hbox hk hp h3 HGA
        have HE := Lib.hid (rfl : chCells ⟨k, i, t, x⟩ = [.int .i64 k, .int .i64 i, .int .i64 t, .int .i64 x])
        go_wp2_with (at_builtin; refine wpList_append_own _ rfl _ _ 25 rfl W.heap.size 29 i0 (.agg #[.int .i64 0, .int .i64 0, .int .i64 0, .int .i64 0]) 4 32 Try.underlying25 hi hz0 hz1 hz2 rfl (by decide) _ _ _ rfl (hrow.alloc _) ⟨w3.heap.size, 0, none⟩ 1 1 [.int .i64 k, .int .i64 i, .int .i64 t, .int .i64 x] rfl rfl ?c1 ?c2 ?c3 ?c4 ?c5 ?_)
        case c1 => exact fun j1 u hu => World.news_of_block (heap_alloc_new w3 (.cells #[.int .i64 k, .int .i64 i, .int .i64 t, .int .i64 x] 29)) j1 u hu
        case c2 => intro u hu; simp at hu; rcases hu with rfl | rfl | rfl | rfl <;> rfl
        case c3 => unfold maxLen; omega
        case c4 => omega
        case c5 => simp; omega
        · intro v' w4 hown' hgrow _
          have h4 := (H3.out.alloc (.cells #[.int .i64 k, .int .i64 i, .int .i64 t, .int .i64 x] 29)).app (c := ⟨k, i, t, x⟩) (v' := v') (w' := w4) hown' hgrow
          have HF := Lib.hid (show Growing W (N + 1) a pb pc kb kc (j + 1) v' w4 from by
            obtain ⟨hT, hv, hl, hac⟩ := HT.out
            refine ⟨_, cs ++ [⟨k, i, t, x⟩], K3, h4, ?_, ?_, by simp; omega, ?_⟩
            · rw [runs_snoc, ← hT]
            · exact valids_snoc _ _ _ _ hv (by rw [← hT]; exact HV.out)
            · exact acyc_act HWF.out hac _ (fun h1 h2 => ((HOK.out (by trivial)).2 h1 h2).1))
          clear h4 hown' hgrow hrow H3
          go_wp2
          go_roundw
          case rel => exact ⟨j + 1, by omega, by go_num, HF.out⟩
          case measure => simp [intOf]; omega
    · obtain rfl : j = len := by omega
      obtain ⟨T, cs, K1, hg, hT, hv, hl, hac⟩ := H1.out
      have HF := Lib.hid (show GrownPost W (N + 1) j (.returned (.tuple #[.pointer (some ⟨a, 0, none⟩), u9])) wr from ⟨a, pb, pc, kb, kc, T, cs, K1, u9, rfl, hg, hT, hv, hl, hac⟩)
      clear hg hT hv hl hac
      go_wp2_with fail
      go_ret2
      exact HF.out
end Go.Proofs.Ytlggpodblabmdaa
