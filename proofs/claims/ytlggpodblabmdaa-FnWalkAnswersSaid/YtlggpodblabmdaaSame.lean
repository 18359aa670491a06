/-
  What laws.sameLinks, laws.place and spec.mod do, by contracts; a lemma text, no statement of the seat.
-/
import Derived.Test.YtlggpodblabmdaaLinks
namespace Go.Proofs.Ytlggpodblabmdaa
open Go.RowKit

theorem rem_add (n : Int) (k : Nat) (hk : 0 < k) : (n.tmod k + k) % k = n % k ∧ 0 ≤ n.tmod k + k ∧ n.tmod k + k < 2 * k := by
  have hk' : (0 : Int) < k := by omega
  have h1 := Int.tmod_lt_of_pos n hk'
  have h2 : -(k : Int) < n.tmod k := by
    have := Int.lt_tmod_of_pos n hk'
    omega
  refine ⟨?_, by omega, by omega⟩
  rw [Int.add_emod_right]
  have h3 := Int.tmod_add_mul_tdiv n (k : Int)
  have h4 : n % k = (n.tmod k + k * n.tdiv k) % k := by rw [h3]
  rw [h4, Int.add_mul_emod_self_left]

theorem place_c (n : Int) (k : Nat) (hk : 0 < k) (hk2 : k ≤ 1000) (w : World) :
    Calls Try.prog 10 #[.int .i64 n, .int .i64 k] w fun e w' => e = .returned (.int .i64 (n % k)) ∧ w = w' := by
  obtain ⟨h1, h2, h3⟩ := rem_add n k hk
  have hk' : (1 : Int) ≤ k := by omega
  have hk0 : ¬ (k : Int) = 0 := by omega
  have H1 := Lib.hid h1
  clear h1
  go_enter Try.func10, Try.ntmps10
  go_wp2
  go_ret
  exact ⟨by rw [← H1.out]; rfl, rfl⟩

theorem mod_c (n : Int) (k : Nat) (hk : 0 < k) (hk2 : k ≤ 1000) (w : World) :
    Calls Try.prog 30 #[.int .i64 n, .int .i64 k] w fun e w' => e = .returned (.int .i64 (n % k)) ∧ w = w' := by
  obtain ⟨h1, h2, h3⟩ := rem_add n k hk
  have hk' : (1 : Int) ≤ k := by omega
  have hk0 : ¬ (k : Int) = 0 := by omega
  have H1 := Lib.hid h1
  clear h1
  go_enter Try.func30, Try.ntmps30
  go_wp2
  go_ret
  exact ⟨by rw [← H1.out]; rfl, rfl⟩

theorem lk_flat : ∀ (n a j : Nat) (G : Nat → Nd) (f : Nat), j < n → f < 7 → ((List.range' a n).flatMap fun i => lkCells (G i))[j * 7 + f]? = (lkCells (G (a + j)))[f]?
  | 0, _, _, _, _, h, _ => by omega
  | n + 1, a, 0, G, f, _, hf => by
    rw [List.range'_succ, List.flatMap_cons]
    simp only [Nat.zero_mul, Nat.zero_add, Nat.add_zero]
    rw [List.getElem?_append_left (by simpa [lkCells] using hf)]
  | n + 1, a, j + 1, G, f, h, hf => by
    rw [List.range'_succ, List.flatMap_cons, List.getElem?_append_right (by simp [lkCells]; omega),
      show (j + 1) * 7 + f - (lkCells (G a)).length = j * 7 + f from by simp [lkCells]; omega, lk_flat n (a + 1) j G f (by omega) hf]
    congr 3; omega

set_option maxHeartbeats 400000 in
theorem same_c {w : World} {b1 b2 n : Nat} (hn : n ≤ 1000) {G : Nat → Nd} {v1 v2 : Value} (h1 : w.ownsRow b1 44 7 v1 n ((List.range n).flatMap fun i => lkCells (G i))) (h2 : w.ownsRow b2 44 7 v2 n ((List.range n).flatMap fun i => lkCells (G i))) :
    Calls Try.prog 13 #[v1, v2] w fun e w' => e = .returned (.bool true) ∧ Below w.heap.size w w' := by
  obtain ⟨g1, o1, c1, rfl, hc1, hs1⟩ := own_shape h1
  obtain ⟨g2, o2, c2, rfl, hc2, hs2⟩ := own_shape h2
  have HS1 := Lib.hid hs1
  have HS2 := Lib.hid hs2
  clear h1 h2 hs1 hs2
  have hnn : (n : Int) ≤ 1000 := by omega
  go_enter Try.func13, Try.ntmps13
  go_wp2_with fail
  go_loopw [13] (fun i wr => ∃ k : Nat, k ≤ n ∧ i = .int .i64 k ∧ Below w.heap.size w wr) (fun i _ => n - (intOf i).toNat)
  case atStart => exact ⟨0, Nat.zero_le _, rfl, Below.refl _ _⟩
  case round =>
    obtain ⟨k, hk, rfl, hb⟩ := hrel
    by_cases hlt : k < n
    · obtain ⟨rfl, hg1, -, hl1⟩ := HS1.out (by omega)
      obtain ⟨rfl, hg2, -, hl2⟩ := HS2.out (by omega)
      have hf1 : ∀ f u, (lkCells (G k))[f]? = some u → wr.cell? ⟨g1, k * 7 + f, none⟩ = some u := fun f u hu => by
        have hf : f < 7 := (List.getElem?_eq_some_iff.1 hu).1
        rw [hb.cell (p := ⟨g1, k * 7 + f, none⟩) hg1, hl1 _ (by omega), List.range_eq_range', lk_flat n 0 k G f hlt hf, Nat.zero_add, hu]
      have hf2 : ∀ f u, (lkCells (G k))[f]? = some u → wr.cell? ⟨g2, k * 7 + f, none⟩ = some u := fun f u hu => by
        have hf : f < 7 := (List.getElem?_eq_some_iff.1 hu).1
        rw [hb.cell (p := ⟨g2, k * 7 + f, none⟩) hg2, hl2 _ (by omega), List.range_eq_range', lk_flat n 0 k G f hlt hf, Nat.zero_add, hu]
      generalize G k = d at hf1 hf2
      have a0 := hf1 0 _ rfl
      have a1 := hf1 1 _ rfl
      have a2 := hf1 2 _ rfl
      have a3 := hf1 3 _ rfl
      have a4 := hf1 4 _ rfl
      have a5 := hf1 5 _ rfl
      have a6 := hf1 6 _ rfl
      have e0 := hf2 0 _ rfl
      have e1 := hf2 1 _ rfl
      have e2 := hf2 2 _ rfl
      have e3 := hf2 3 _ rfl
      have e4 := hf2 4 _ rfl
      have e5 := hf2 5 _ rfl
      have e6 := hf2 6 _ rfl
      simp only [Nat.add_zero] at a0 e0
      have hi0 : (0 : Int) ≤ (k : Int) := Int.natCast_nonneg _
      have hi1 : (k : Int) < (n : Int) := by omega
      have HB := Lib.hid hb
      clear hf1 hf2 hl1 hl2 hg1 hg2 hb
      go_wp2_with fail
      go_quiet (fail)
      go_wp2_with fail
      go_roundw
      case rel => exact ⟨k + 1, by omega, by go_num, HB.out.trans ⟨rfl, rfl, rfl, Nat.le_refl _, fun _ _ => rfl⟩⟩
      case measure => simp [intOf]; omega
    · go_wp2_with fail
      go_ret
      exact ⟨rfl, hb⟩
end Go.Proofs.Ytlggpodblabmdaa
