/-
  The walks of laws.FnWalk and laws.FnWalkAnswers; a lemma text, no statement of the seat.
-/
import Derived.Test.YtlggpodblabmdaaWalks
namespace Go.Proofs.Ytlggpodblabmdaa
open Go.RowKit

set_option maxHeartbeats 800000 in
theorem walklaw_w (many : Int) (ao : Option Addr) (len cap : Nat) (p0 : Int) (W : World) (hin : Came W ao len) : Calls Try.prog 8 #[.int .i64 many, .slice ao len cap, .int .i64 p0] W fun e w' => e = .returned (.bool true) ∧ Below W.heap.size W w' := by
  by_cases hbig : 2147483647 < len
  · have hb : (2147483647 : Int) < (len : Int) := by omega
    clear hin
    go_enter Try.func8, Try.ntmps8
    go_wp2
    go_ret
    exact ⟨rfl, Below.refl _ _⟩
  · have hlen : len ≤ 2147483647 := by omega
    have hb : (len : Int) ≤ 2147483647 := by omega
    have c := grown_c W many ao len cap true hlen hin
    obtain ⟨n, hn⟩ : ∃ n, (many % 12).toNat + 1 = n := ⟨_, rfl⟩
    have hn12 : n ≤ 12 := by
      have := Int.emod_lt_of_pos many (b := 12) (by decide)
      omega
    have hn0 : 0 < n := by omega
    rw [hn] at c
    obtain ⟨p, hp, hpn⟩ : ∃ x : Nat, p0 % n = x ∧ x < n := by
      have h1 := Int.emod_nonneg p0 (b := (n : Int)) (by omega)
      have h2 := Int.emod_lt_of_pos p0 (b := (n : Int)) (by omega)
      exact ⟨(p0 % n).toNat, by omega, by omega⟩
    have HP := Lib.hid hp
    clear hin hbig hn hp
    go_enter Try.func8, Try.ntmps8
    go_wp2_with fail
    ((with_reducible refine c.mono ?_))
    rintro e w1 ⟨a, pb, pc, kb, kc, T, cs, K, v, rfl, hs, rfl, hv, hl, hac⟩
    have c0 := hs.gr.c0
    have hn1 : (n : Int) ≤ 12 := by omega
    have cw := walks_c hs hn12 hv (by omega) hac hpn (zo := none) (zs := []) (zl := 0) (zcap := 0) rfl (by omega) (fun h => absurd h (by simp))
    have HB1 := Lib.hid hs.below
    clear hac c hv hs
    go_wp2_with fail
    ((with_reducible refine (place_c p0 n hn0 (by omega) w1).mono ?_))
    rintro e w' ⟨rfl, rfl⟩
    simp only [HP.out]
    go_wp2_with fail
    refine cw.mono ?_
    rintro e w4 ⟨rfl, hb4⟩
    have HB4 := Lib.hid (HB1.out.trans (hb4.mono HB1.out.size))
    clear hb4 cw
    go_wp2_with fail
    go_ret
    exact ⟨rfl, HB4.out⟩

set_option maxHeartbeats 800000 in
theorem answerslaw_w (many : Int) (ao : Option Addr) (len cap : Nat) (p0 : Int) (zo : Option Addr) (zs : List Int) (zcap : Nat) (W : World) (hin : Came W ao len) (hzs : CameInts W zo zs) :
    Calls Try.prog 9 #[.int .i64 many, .slice ao len cap, .int .i64 p0, .slice zo zs.length zcap] W fun e w' => e = .returned (.bool true) ∧ Below W.heap.size W w' := by
  obtain ⟨zl, hzl⟩ : ∃ zl, zs.length = zl := ⟨_, rfl⟩
  rw [hzl]
  by_cases hbig : 2147483647 < len
  · have hb : (2147483647 : Int) < (len : Int) := by omega
    clear hin hzs hzl
    go_enter Try.func9, Try.ntmps9
    go_wp2
    go_ret
    exact ⟨rfl, Below.refl _ _⟩
  have hlen : len ≤ 2147483647 := by omega
  have hb : (len : Int) ≤ 2147483647 := by omega
  by_cases hbig2 : 2147483647 < zl
  · have hb2 : (2147483647 : Int) < (zl : Int) := by omega
    clear hin hzs hzl hbig
    go_enter Try.func9, Try.ntmps9
    go_wp2
    go_ret
    exact ⟨rfl, Below.refl _ _⟩
  have hzlen : zl ≤ 2147483647 := by omega
  have hb2 : (zl : Int) ≤ 2147483647 := by omega
  have c := grown_c W many ao len cap true hlen hin
  obtain ⟨n, hn⟩ : ∃ n, (many % 12).toNat + 1 = n := ⟨_, rfl⟩
  have hn12 : n ≤ 12 := by
    have := Int.emod_lt_of_pos many (b := 12) (by decide)
    omega
  have hn0 : 0 < n := by omega
  rw [hn] at c
  obtain ⟨p, hp, hpn⟩ : ∃ x : Nat, p0 % n = x ∧ x < n := by
    have h1 := Int.emod_nonneg p0 (b := (n : Int)) (by omega)
    have h2 := Int.emod_lt_of_pos p0 (b := (n : Int)) (by omega)
    exact ⟨(p0 % n).toNat, by omega, by omega⟩
  have HP := Lib.hid hp
  have HZ := Lib.hid hzs
  have HZL := Lib.hid hzl
  clear hin hbig hbig2 hn hp hzs hzl
  go_enter Try.func9, Try.ntmps9
  go_wp2_with fail
  ((with_reducible refine c.mono ?_))
  rintro e w1 ⟨a, pb, pc, kb, kc, T, cs, K, v, rfl, hs, rfl, hv, hl, hac⟩
  have c0 := hs.gr.c0
  have hn1 : (n : Int) ≤ 12 := by omega
  have cw := walks_c hs hn12 hv (by omega) hac hpn (zo := zo) (zs := zs) (zl := zl) (zcap := zcap) HZL.out hzlen (fun h0 => by
    obtain ⟨b, off, h1, h2, h3⟩ := HZ.out h0
    exact ⟨b, off, h1, Nat.lt_of_lt_of_le h2 hs.below.size, fun j hj => (hs.below.cell (p := ⟨b, off + j, none⟩) h2).trans (h3 j hj)⟩)
  have HB1 := Lib.hid hs.below
  clear hac c hv hs
  go_wp2_with fail
  ((with_reducible refine (place_c p0 n hn0 (by omega) w1).mono ?_))
  rintro e w' ⟨rfl, rfl⟩
  simp only [HP.out]
  go_wp2_with fail
  refine cw.mono ?_
  rintro e w4 ⟨rfl, hb4⟩
  have HB4 := Lib.hid (HB1.out.trans (hb4.mono HB1.out.size))
  clear hb4 cw
  go_wp2_with fail
  go_ret
  exact ⟨rfl, HB4.out⟩
end Go.Proofs.Ytlggpodblabmdaa
