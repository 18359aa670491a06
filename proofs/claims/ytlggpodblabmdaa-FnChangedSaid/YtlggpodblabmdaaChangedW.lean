/-
  The walks of laws.FnChanged and laws.FnChangedMoved; a lemma text, no statement of the seat.
-/
import Derived.Test.YtlggpodblabmdaaGrown
namespace Go.Proofs.Ytlggpodblabmdaa
open Go.RowKit

set_option maxHeartbeats 800000 in
theorem changed_w (many : Int) (ao : Option Addr) (len cap : Nat) (W : World) (hin : Came W ao len) : Calls Try.prog 4 #[.int .i64 many, .slice ao len cap] W fun e w' => e = .returned (.bool true) ∧ Below W.heap.size W w' := by
  by_cases hbig : 2147483647 < len
  · have hb : (2147483647 : Int) < (len : Int) := by omega
    clear hin
    go_enter Try.func4, Try.ntmps4
    go_wp2
    go_ret
    exact ⟨rfl, Below.refl _ _⟩
  · have hlen : len ≤ 2147483647 := by omega
    have hb : (len : Int) ≤ 2147483647 := by omega
    have c := grown_c W many ao len cap false hlen hin
    obtain ⟨n, hn⟩ : ∃ n, (many % 12).toNat + 1 = n := ⟨_, rfl⟩
    have hn12 : n ≤ 12 := by
      have := Int.emod_lt_of_pos many (b := 12) (by decide)
      omega
    have hn0 : 0 < n := by omega
    rw [hn] at c
    clear hin hbig hn
    go_enter Try.func4, Try.ntmps4
    go_wp2_with fail
    refine c.mono ?_
    rintro e w1 ⟨a, pb, pc, kb, kc, T, cs, K, v, rfl, hs, rfl, hv, hl, hac⟩
    have c0 := hs.gr.c0
    have hn1 : (n : Int) ≤ 12 := by omega
    have HV := Lib.hid hv
    have H1 := Lib.hid hs
    have HWF := Lib.hid (valids_wf n cs _ (wf_new n) hv)
    clear hac c hv hs
    have c := changed_c n (by omega) cs v w1 (ownsRow_base H1.out.row (Nat.zero_le _)) (by omega) HV.out
    go_wp2_with fail
    refine c.mono ?_
    intro e w2 hl
    obtain ⟨v2, rfl, hr2, hb2⟩ := hl
    have HR2 := Lib.hid hr2
    have H2 := Lib.hid (H1.out.over hb2)
    clear c hr2 hb2 H1 c0
    go_wp2_with fail
    refine (linksOf_c H2.out.gr HWF.out (by omega) (by omega)).mono ?_
    intro e w3 hl
    obtain ⟨v3, rfl, hr3, hb3⟩ := hl
    have HR3 := Lib.hid (ownsRow_base hr3 (Nat.zero_le _))
    have HR2' := Lib.hid (ownsRow_base ((Kept.of_below (S := fun _ => False) hb3).row HR2.out (fun _ _ => id)) (Nat.zero_le _))
    have HB := Lib.hid (H2.out.over hb3).below
    clear hr3 hb3 H2 HR2
    go_wp2_with fail
    refine (same_c (by omega) HR2'.out HR3.out).mono ?_
    rintro e w4 ⟨rfl, hb4⟩
    have HB4 := Lib.hid (HB.out.trans (hb4.mono HB.out.size))
    clear hb4
    go_wp2_with fail
    go_ret
    exact ⟨rfl, HB4.out⟩

set_option maxHeartbeats 800000 in
theorem moved_w (many : Int) (ao : Option Addr) (len cap : Nat) (W : World) (hin : Came W ao len) : Calls Try.prog 5 #[.int .i64 many, .slice ao len cap] W fun e w' => e = .returned (.bool true) ∧ Below W.heap.size W w' := by
  by_cases hbig : 2147483647 < len
  · have hb : (2147483647 : Int) < (len : Int) := by omega
    clear hin
    go_enter Try.func5, Try.ntmps5
    go_wp2
    go_ret
    exact ⟨rfl, Below.refl _ _⟩
  · have hlen : len ≤ 2147483647 := by omega
    have hb : (len : Int) ≤ 2147483647 := by omega
    have c := grown_c W many ao len cap true hlen hin
    obtain ⟨n, hn⟩ : ∃ n, (many % 12).toNat + 1 = n := ⟨_, rfl⟩
    have hn12 : n ≤ 12 := by
      have := Int.emod_lt_of_pos many (b := 12) (by decide)
      omega
    have hn0 : 0 < n := by omega
    rw [hn] at c
    clear hin hbig hn
    go_enter Try.func5, Try.ntmps5
    go_wp2_with fail
    refine c.mono ?_
    rintro e w1 ⟨a, pb, pc, kb, kc, T, cs, K, v, rfl, hs, rfl, hv, hl, hac⟩
    have c0 := hs.gr.c0
    have hn1 : (n : Int) ≤ 12 := by omega
    have HV := Lib.hid hv
    have H1 := Lib.hid hs
    have HWF := Lib.hid (valids_wf n cs _ (wf_new n) hv)
    clear hac c hv hs
    have c := changed_c n (by omega) cs v w1 (ownsRow_base H1.out.row (Nat.zero_le _)) (by omega) HV.out
    go_wp2_with fail
    refine c.mono ?_
    intro e w2 hl
    obtain ⟨v2, rfl, hr2, hb2⟩ := hl
    have HR2 := Lib.hid hr2
    have H2 := Lib.hid (H1.out.over hb2)
    clear c hr2 hb2 H1 c0
    go_wp2_with fail
    refine (linksOf_c H2.out.gr HWF.out (by omega) (by omega)).mono ?_
    intro e w3 hl
    obtain ⟨v3, rfl, hr3, hb3⟩ := hl
    have HR3 := Lib.hid (ownsRow_base hr3 (Nat.zero_le _))
    have HR2' := Lib.hid (ownsRow_base ((Kept.of_below (S := fun _ => False) hb3).row HR2.out (fun _ _ => id)) (Nat.zero_le _))
    have HB := Lib.hid (H2.out.over hb3).below
    clear hr3 hb3 H2 HR2
    go_wp2_with fail
    refine (same_c (by omega) HR2'.out HR3.out).mono ?_
    rintro e w4 ⟨rfl, hb4⟩
    have HB4 := Lib.hid (HB.out.trans (hb4.mono HB.out.size))
    clear hb4
    go_wp2_with fail
    go_ret
    exact ⟨rfl, HB4.out⟩

end Go.Proofs.Ytlggpodblabmdaa
