/-
  The reference's put by contracts; a lemma text, no statement of the seat.
-/
import Derived.Test.YtlggpodblabmdaaDrop
namespace Go.Proofs.Ytlggpodblabmdaa
open Go.RowKit

theorem below_alloc {B : Nat} {W w1 : World} (h : Below B W w1) (hB : B ≤ w1.heap.size) (o : Obj) : Below B W (w1.alloc o) :=
  ⟨h.os, h.tape, h.output, Nat.le_trans h.size (by simp), fun k hk => by rw [Below.heap_alloc _ _ _ (Nat.lt_of_lt_of_le hk hB)]; exact h.block k hk⟩
theorem below_grown {W w1 w2 : World} {B : Nat} (hb : Below B W w1) (hB : B ≤ w1.heap.size) (h : w1.grownBy w2 none) : Below B W w2 :=
  ⟨h.os.trans hb.os, h.tape.trans hb.tape, h.output.trans hb.output, Nat.le_trans hb.size h.size, fun k hk => (h.block k (Nat.lt_of_lt_of_le hk hB) (by simp)).trans (hb.block k hk)⟩
theorem row_alloc {w : World} {e s b n : Nat} {v : Value} {xs : List Value} (h : w.ownsRow b e s v n xs) (o : Obj) : (w.alloc o).ownsRow b e s v n xs :=
  (Kept.alloc (Kept.refl (fun _ => False) w) o).row h (fun _ _ => id)
theorem cell_new (w : World) (t : TypeId) (u : Value) : (w.alloc (.cells #[u] t (0, 0))).cell? ⟨w.heap.size, 0, none⟩ = some u := by
  have e : (w.alloc (.cells #[u] t (0, 0))).heap = w.heap.push (.cells #[u] t (0, 0)) := rfl
  simp [World.cell?, e]
theorem one_new (u : Value) (w : World) (b : Nat) (h : w.cell? ⟨b, 0, none⟩ = some u) : ∀ j x, ([u] : List Value)[j]? = some x → w.cell? ((⟨b, 0, none⟩ : Addr).add j) = some x := by
  intro j x hx
  match j, hx with
  | 0, hx => cases hx; simpa [Addr.add] using h

section
variable {w w' : World} {n a pb pc kb kc : Nat} {T : Gr} {K : Nat → Value}

set_option maxRecDepth 100000 in
set_option maxHeartbeats 3200000 in
theorem put_some (h : GR w n a pb pc kb kc T K) (hlen : ∀ i, (T.kids i).length ≤ 1000) {p i x : Nat} (hp : p < n) (hil : i ≤ (T.kids p).length) (hxn : x < n)
    (g cap : Nat) (hv : K p = .slice (some ⟨g, 0, none⟩) (T.kids p).length cap) (hcap : (T.kids p).length ≤ cap) (hg : g < w.heap.size) (hcell : ∀ k, k < (T.kids p).length → w.cell? ⟨g, k, none⟩ = (ints (T.kids p))[k]?) :
    Calls Try.prog 21 #[.pointer (some ⟨a, 0, none⟩), .int .i64 p, .int .i64 i, .int .i64 x] w (GPost w n a pb pc kb kc (T.put p i x)) := by
  obtain ⟨i3, hi, hz0, hz1, hz2⟩ := info_parts Try.info3
  have hl := hlen p
  have c0 := h.c0
  have c1 := h.c1
  have ck := h.kid_at hp
  have cp := h.par_at hxn
  have zp := h.par.frozenAt x
  rw [hv] at ck
  obtain ⟨len, hlen'⟩ : ∃ len, (T.kids p).length = len := ⟨_, rfl⟩
  rw [hlen'] at ck hil hl hcap
  have HL := Lib.hid hlen'
  have hgpb : g ≠ pb := fun e => h.apart p hp (by rw [hv, e]; rfl)
  have hks : ∀ (j y : Nat), (T.kids p)[j]? = some y → w.cell? ⟨g, j, none⟩ = some (.int .i64 (y : Int)) := fun j y hy => by
    rw [hcell j (List.getElem?_eq_some_iff.1 hy).1]; simp [ints, hy]
  have HKS := Lib.hid hks
  have HGP := Lib.hid hgpb
  clear hks hgpb hcell hlen'
  have hp0 : (0 : Int) ≤ (p : Int) := Int.natCast_nonneg _
  have hp1 : (p : Int) < (n : Int) := by omega
  have hx0 : (0 : Int) ≤ (x : Int) := Int.natCast_nonneg _
  have hx1 : (x : Int) < (n : Int) := by omega
  have hi0 : (0 : Int) ≤ (i : Int) := Int.natCast_nonneg _
  have hi1 : (i : Int) ≤ (len : Int) := by omega
  have H := Lib.hid h
  have HV := Lib.hid hv
  clear h hlen hv
  go_enter Try.func21, Try.ntmps21
  go_wp2_with fail
  obtain ⟨W, hW⟩ : ∃ W, w.setCell ⟨pb, x, none⟩ (.int .i64 p) = W := ⟨_, rfl⟩
  rw [hW]
  have HW := Lib.hid hW
  have hst2 : ∀ b o u, b ≠ pb → w.cell? ⟨b, o, none⟩ = some u → W.cell? ⟨b, o, none⟩ = some u := fun b o u hb hc => by
    rw [← hW, World.cell?_of_block (w := w) (Below.heap_setCell _ _ _ _ hb)]; exact hc
  have c1' := hst2 a 1 _ H.out.a_pb c1
  have ck' := hst2 kb p _ (Ne.symm H.out.pb_kb) ck
  clear hW hst2 c0 c1 ck cp zp
  have hsz : W.heap.size = w.heap.size := by rw [← HW.out]; simp [World.setCell]
  have hall : ∀ l : List Nat, ∀ u ∈ ints l, u.oneCell' = true := fun l u hu => by
    simp only [ints, List.mem_map] at hu; obtain ⟨y, -, rfl⟩ := hu; rfl
  have HA := Lib.hid hall
  have hal : a < W.heap.size := by have := H.out.a_lt; omega
  have hkl : kb < W.heap.size := by have := H.out.kb_lt; omega
  have zk : W.frozen? ⟨kb, p, none⟩ = false := by
    rw [← HW.out, World.frozen?_of_block (w := w) (Below.heap_setCell _ _ _ _ (Ne.symm H.out.pb_kb))]; exact H.out.kid.frozenAt p
  have hb0 : Below W.heap.size W W.drew := ⟨rfl, rfl, rfl, Nat.le_refl _, fun _ _ => rfl⟩
  have HB0 := Lib.hid hb0
  clear hall hb0
  have hkw : ∀ w1, Below W.heap.size W w1 → ∀ (j y : Nat), (T.kids p)[j]? = some y → w1.cell? ⟨g, j, none⟩ = some (.int .i64 (y : Int)) := fun w1 hb j y hy => by
    rw [hb.cell (p := ⟨g, j, none⟩) (by show g < _; omega), ← HW.out, World.cell?_of_block (w := w) (Below.heap_setCell _ _ _ _ HGP.out)]; exact HKS.out j y hy
  have hcell1 : ∀ w1, Below W.heap.size W w1 → ∀ j u, (ints ((T.kids p).take i))[j]? = some u → w1.cell? ((⟨g, 0, none⟩ : Addr).add j) = some u := fun w1 hb j u hu => by
    obtain ⟨y, hy, rfl⟩ := ints_at hu
    rw [add_at, Nat.zero_add]
    exact hkw w1 hb j y (by rw [List.getElem?_take] at hy; split at hy <;> simp_all)
  have hlt1 : (ints ((T.kids p).take i)).length = i * 1 := by simp [ints]; rw [HL.out]; omega
  have hlt2 : (ints ((T.kids p).drop i)).length = (len - i) * 1 := by simp [ints]; rw [HL.out]
  have HC1 := Lib.hid hcell1
  have HL1 := Lib.hid hlt1
  have HL2 := Lib.hid hlt2
  have i3' : (len : Int) ≤ (cap : Int) := by omega
  have hic : i ≤ cap := by omega
  have i4 : (i : Int) ≤ (cap : Int) := by omega
  clear hcell1 hlt1 hlt2
  obtain ⟨A, hA⟩ : ∃ A : Addr, (if cap = i then some (⟨g, 0, none⟩ : Addr) else some ⟨g, i, none⟩) = some A := by
    by_cases hcp : cap = i
    · exact ⟨_, if_pos hcp⟩
    · exact ⟨_, if_neg hcp⟩
  have hn2 : ∀ w1, Below W.heap.size W w1 → ∀ j u, (ints ((T.kids p).drop i))[j]? = some u → w1.cell? (A.add j) = some u := fun w1 hb j u hu => by
    obtain ⟨y, hy, rfl⟩ := ints_at hu
    rw [List.getElem?_drop] at hy
    have hjl := (List.getElem?_eq_some_iff.1 hy).1
    have hlc' := HL.out
    rw [if_neg (by omega)] at hA
    obtain rfl : _ = A := Option.some.inj hA
    rw [add_at]
    exact hkw w1 hb _ y hy
  have HN2 := Lib.hid hn2
  clear hn2 hkw
  clear hsz
  have hS : W.drew.cell? ⟨a, 1, none⟩ = some (.slice (some ⟨kb, 0, none⟩) n kc) ∧ W.drew.cell? ⟨kb, p, none⟩ = some (.slice (some ⟨g, 0, none⟩) len cap) := ⟨c1', ck'⟩
  refine wp_region_last (fun w' => w'.cell? ⟨a, 1, none⟩ = some (.slice (some ⟨kb, 0, none⟩) n kc) ∧ w'.cell? ⟨kb, p, none⟩ = some (.slice (some ⟨g, 0, none⟩) len cap)) 29 (by kernel_rfl) ?_
  refine wpAnyL_take (i := 0) (v := ?v0) 15 rfl rfl (by kernel_rfl) (by kernel_rfl) (by kernel_rfl) (by kernel_rfl) (fun _ _ _ h => h) (by rfl) ?h0 hS ?r0
  case h0 => (intro w' hSw; obtain ⟨s1, s2⟩ := hSw; go_simp <;> with_reducible rfl)
  simp only [List.setIfInBounds_toArray, List.set_cons_zero, List.set_cons_succ]
  refine wpAnyL_take (i := 1) (v := ?v1) 16 rfl rfl (by kernel_rfl) (by kernel_rfl) (by kernel_rfl) (by kernel_rfl) (fun _ _ _ h => h) (by rfl) ?h1 hS ?r1
  case h1 => (intro w' hSw; obtain ⟨s1, s2⟩ := hSw; go_simp <;> with_reducible rfl)
  simp only [List.setIfInBounds_toArray, List.set_cons_zero, List.set_cons_succ]
  refine wpAnyL_take (i := 2) (v := ?v2) 17 rfl rfl (by kernel_rfl) (by kernel_rfl) (by kernel_rfl) (by kernel_rfl) (fun _ _ _ h => h) (by rfl) ?h2 hS ?r2
  case h2 => (intro w' hSw; obtain ⟨s1, s2⟩ := hSw; go_simp <;> with_reducible rfl)
  simp only [List.setIfInBounds_toArray, List.set_cons_zero, List.set_cons_succ]
  refine wpAnyL_take (i := 3) (v := ?v3) 18 rfl rfl (by kernel_rfl) (by kernel_rfl) (by kernel_rfl) (by kernel_rfl) (fun _ _ _ h => h) (by rfl) ?h3 hS ?r3
  case h3 => (intro w' hSw; obtain ⟨s1, s2⟩ := hSw; go_simp <;> with_reducible rfl)
  simp only [List.setIfInBounds_toArray, List.set_cons_zero, List.set_cons_succ]
  refine wpAnyL_take (i := 4) (v := ?v4) 19 rfl rfl (by kernel_rfl) (by kernel_rfl) (by kernel_rfl) (by kernel_rfl) (fun _ _ _ h => h) (by rfl) ?h4 hS ?r4
  case h4 => (intro w' hSw; obtain ⟨s1, s2⟩ := hSw; go_simp <;> with_reducible rfl)
  simp only [List.setIfInBounds_toArray, List.set_cons_zero, List.set_cons_succ]
  refine wpAnyL_take (i := 5) (v := ?v5) 20 rfl rfl (by kernel_rfl) (by kernel_rfl) (by kernel_rfl) (by kernel_rfl) (fun _ _ _ h => h) (by rfl) ?h5 hS ?r5
  case h5 => (intro w' hSw; obtain ⟨s1, s2⟩ := hSw; go_simp <;> with_reducible rfl)
  simp only [List.setIfInBounds_toArray, List.set_cons_zero, List.set_cons_succ]
  refine wpAnyL_take (i := 6) (v := ?v6) 21 rfl rfl (by kernel_rfl) (by kernel_rfl) (by kernel_rfl) (by kernel_rfl) (fun _ _ _ h => h) (by rfl) ?h6 hS ?r6
  case h6 => (intro w' hSw; obtain ⟨s1, s2⟩ := hSw; go_simp <;> with_reducible rfl)
  simp only [List.setIfInBounds_toArray, List.set_cons_zero, List.set_cons_succ]
  refine wpAnyL_take (i := 7) (v := ?v7) 22 rfl rfl (by kernel_rfl) (by kernel_rfl) (by kernel_rfl) (by kernel_rfl) (fun _ _ _ h => h) (by rfl) ?h7 hS ?r7
  case h7 => (intro w' hSw; obtain ⟨s1, s2⟩ := hSw; go_simp <;> with_reducible rfl)
  simp only [List.setIfInBounds_toArray, List.set_cons_zero, List.set_cons_succ]
  refine wpAnyL_take (i := 8) (v := ?v8) 23 rfl rfl (by kernel_rfl) (by kernel_rfl) (by kernel_rfl) (by kernel_rfl) (fun _ _ _ h => h) (by rfl) ?h8 hS ?r8
  case h8 => (intro w' hSw; obtain ⟨s1, s2⟩ := hSw; go_simp <;> with_reducible rfl)
  simp only [List.setIfInBounds_toArray, List.set_cons_zero, List.set_cons_succ]
  refine wpAnyL_take (i := 9) (v := ?v9) 24 rfl rfl (by kernel_rfl) (by kernel_rfl) (by kernel_rfl) (by kernel_rfl) (fun _ _ _ h => h) (by rfl) ?h9 hS ?r9
  case h9 => (intro w' hSw; obtain ⟨s1, s2⟩ := hSw; go_simp <;> with_reducible rfl)
  simp only [List.setIfInBounds_toArray, List.set_cons_zero, List.set_cons_succ]
  refine wpAnyL_take (i := 10) (v := ?v10) 25 rfl rfl (by kernel_rfl) (by kernel_rfl) (by kernel_rfl) (by kernel_rfl) (fun _ _ _ h => h) (by rfl) ?h10 hS ?r10
  case h10 => (intro w' hSw; obtain ⟨s1, s2⟩ := hSw; go_simp <;> with_reducible rfl)
  simp only [List.setIfInBounds_toArray, List.set_cons_zero, List.set_cons_succ]
  refine wpAnyL_take (i := 11) (v := ?v11) 26 rfl rfl (by kernel_rfl) (by kernel_rfl) (by kernel_rfl) (by kernel_rfl) (fun _ _ _ h => h) (by rfl) ?h11 hS ?r11
  case h11 => (intro w' hSw; obtain ⟨s1, s2⟩ := hSw; go_simp <;> with_reducible rfl)
  simp only [List.setIfInBounds_toArray, List.set_cons_zero, List.set_cons_succ]
  refine wpAnyL_take (i := 12) (v := ?v12) 27 rfl rfl (by kernel_rfl) (by kernel_rfl) (by kernel_rfl) (by kernel_rfl) (fun _ _ _ h => h) (by rfl) ?h12 hS ?r12
  case h12 => (intro w' hSw; obtain ⟨s1, s2⟩ := hSw; go_simp <;> with_reducible rfl)
  simp only [List.setIfInBounds_toArray, List.set_cons_zero, List.set_cons_succ]
  refine wpAnyL_take (i := 13) (v := ?v13) 28 rfl rfl (by kernel_rfl) (by kernel_rfl) (by kernel_rfl) (by kernel_rfl) (fun _ _ _ h => h) (by rfl) ?h13 hS ?r13
  case h13 => (intro w' hSw; obtain ⟨s1, s2⟩ := hSw; go_simp <;> with_reducible rfl)
  simp only [List.setIfInBounds_toArray, List.set_cons_zero, List.set_cons_succ]
  refine wpAnyL_take (i := 15) (v := ?v15) 30 rfl rfl (by kernel_rfl) (by kernel_rfl) (by kernel_rfl) (by kernel_rfl) (fun _ _ _ h => h) (by rfl) ?h15 hS ?r15
  case h15 => (intro w' hSw; obtain ⟨s1, s2⟩ := hSw; go_simp <;> with_reducible rfl)
  simp only [List.setIfInBounds_toArray, List.set_cons_zero, List.set_cons_succ]
  refine wpAnyL_take (i := 18) (v := ?v18) 33 rfl rfl (by kernel_rfl) (by kernel_rfl) (by kernel_rfl) (by kernel_rfl) (fun _ _ _ h => h) (by rfl) ?h18 hS ?r18
  case h18 => (intro w' hSw; obtain ⟨s1, s2⟩ := hSw; go_simp <;> with_reducible rfl)
  simp only [List.setIfInBounds_toArray, List.set_cons_zero, List.set_cons_succ]
  refine wpAnyL_take (i := 19) (v := ?v19) 34 rfl rfl (by kernel_rfl) (by kernel_rfl) (by kernel_rfl) (by kernel_rfl) (fun _ _ _ h => h) (by rfl) ?h19 hS ?r19
  case h19 => (intro w' hSw; obtain ⟨s1, s2⟩ := hSw; go_simp <;> with_reducible rfl)
  simp only [List.setIfInBounds_toArray, List.set_cons_zero, List.set_cons_succ]
  refine wpAnyL_take (i := 20) (v := ?v20) 35 rfl rfl (by kernel_rfl) (by kernel_rfl) (by kernel_rfl) (by kernel_rfl) (fun _ _ _ h => h) (by rfl) ?h20 hS ?r20
  case h20 => (intro w' hSw; obtain ⟨s1, s2⟩ := hSw; go_simp <;> with_reducible rfl)
  simp only [List.setIfInBounds_toArray, List.set_cons_zero, List.set_cons_succ]
  refine wpAnyL_take (i := 21) (v := ?v21) 36 rfl rfl (by kernel_rfl) (by kernel_rfl) (by kernel_rfl) (by kernel_rfl) (fun _ _ _ h => h) (by rfl) ?h21 hS ?r21
  case h21 => (intro w' hSw; obtain ⟨s1, s2⟩ := hSw; go_simp <;> with_reducible rfl)
  simp only [List.setIfInBounds_toArray, List.set_cons_zero, List.set_cons_succ]
  refine wpAnyL_take (i := 22) (v := ?v22) 37 rfl rfl (by kernel_rfl) (by kernel_rfl) (by kernel_rfl) (by kernel_rfl) (fun _ _ _ h => h) (by rfl) ?h22 hS ?r22
  case h22 => (intro w' hSw; obtain ⟨s1, s2⟩ := hSw; go_simp <;> with_reducible rfl)
  simp only [List.setIfInBounds_toArray, List.set_cons_zero, List.set_cons_succ]
  refine wpAnyL_take (i := 23) (v := ?v23) 38 rfl rfl (by kernel_rfl) (by kernel_rfl) (by kernel_rfl) (by kernel_rfl) (fun _ _ _ h => h) (by rfl) ?h23 hS ?r23
  case h23 => (intro w' hSw; obtain ⟨s1, s2⟩ := hSw; go_simp <;> with_reducible rfl)
  simp only [List.setIfInBounds_toArray, List.set_cons_zero, List.set_cons_succ]
  refine wpAnyL_take (i := 24) (v := ?v24) 39 rfl rfl (by kernel_rfl) (by kernel_rfl) (by kernel_rfl) (by kernel_rfl) (fun _ _ _ h => h) (by rfl) ?h24 hS ?r24
  case h24 => (intro w' hSw; obtain ⟨s1, s2⟩ := hSw; go_simp <;> with_reducible rfl)
  simp only [List.setIfInBounds_toArray, List.set_cons_zero, List.set_cons_succ]
  refine wpAnyL_take (i := 25) (v := ?v25) 40 rfl rfl (by kernel_rfl) (by kernel_rfl) (by kernel_rfl) (by kernel_rfl) (fun _ _ _ h => h) (by rfl) ?h25 hS ?r25
  case h25 => (intro w' hSw; obtain ⟨s1, s2⟩ := hSw; go_simp <;> with_reducible rfl)
  simp only [List.setIfInBounds_toArray, List.set_cons_zero, List.set_cons_succ]
  refine wpAnyL_take (i := 26) (v := ?v26) 41 rfl rfl (by kernel_rfl) (by kernel_rfl) (by kernel_rfl) (by kernel_rfl) (fun _ _ _ h => h) (by rfl) ?h26 hS ?r26
  case h26 => (intro w' hSw; obtain ⟨s1, s2⟩ := hSw; go_simp <;> with_reducible rfl)
  simp only [List.setIfInBounds_toArray, List.set_cons_zero, List.set_cons_succ]
  refine wpAnyL_twoM (i := 14) (i' := 16) 29 (by kernel_rfl) rfl rfl rfl (fun K1 hK1 => ?fst) (fun K1 hK1 => ?snd)
  case fst =>
    refine step_append_at _ (by rfl) (.const (.slice none 0 0)) (.tmp 28) 38 (by rfl) W.heap.size 3 i3 (.int .i64 0) 1 8 Try.underlying38 hi hz0 hz1 hz2 rfl (by decide) (.slice none 0 0) 0 [] (by rfl) (World.ownsRow_nil _ _ _ _) ⟨g, 0, none⟩ i cap (ints ((T.kids p).take i)) (by rfl) HL1.out (HC1.out _ HB0.out) (HA.out _) (by unfold maxLen; omega) (by omega) (HB0.out).size ?_
    intro v1 w1 hown1 hgrow1
    have hb1 := below_grown HB0.out (HB0.out).size hgrow1
    have hS1 : w1.cell? ⟨a, 1, none⟩ = some (.slice (some ⟨kb, 0, none⟩) n kc) ∧ w1.cell? ⟨kb, p, none⟩ = some (.slice (some ⟨g, 0, none⟩) len cap) := ⟨((hb1).cell (p := ⟨a, 1, none⟩) hal).trans c1', ((hb1).cell (p := ⟨kb, p, none⟩) hkl).trans ck'⟩
    refine hK1.out _ _ (fun _ => hS1) ?_
    clear hK1 K1 hS1
    simp only [List.setIfInBounds_toArray, List.set_cons_zero, List.set_cons_succ]
    refine wpAnyL_one (i := 16) (by kernel_rfl) rfl (fun K1 hK1 => ?_)
    go_simp
    have hcx := cell_new w1 3 (.int .i64 (x : Int))
    obtain ⟨b1, hb1e⟩ : ∃ b1, w1.heap.size = b1 := ⟨_, rfl⟩
    have hbb := below_alloc hb1 (hb1).size (.cells #[.int .i64 (x : Int)] 3 (0, 0))
    have hownb := row_alloc hown1 (.cells #[.int .i64 (x : Int)] 3 (0, 0))
    simp only [hb1e] at hcx ⊢
    obtain ⟨w2, hw2⟩ : ∃ w2, w1.alloc (.cells #[.int .i64 (x : Int)] 3 (0, 0)) = w2 := ⟨_, rfl⟩
    simp only [hw2] at hcx hbb hownb ⊢
    have hS2 : w2.cell? ⟨a, 1, none⟩ = some (.slice (some ⟨kb, 0, none⟩) n kc) ∧ w2.cell? ⟨kb, p, none⟩ = some (.slice (some ⟨g, 0, none⟩) len cap) := ⟨((hbb).cell (p := ⟨a, 1, none⟩) hal).trans c1', ((hbb).cell (p := ⟨kb, p, none⟩) hkl).trans ck'⟩
    refine hK1.out _ _ (fun _ => hS2) ?_
    clear hK1 K1 hS2 hw2 hb1e
    try simp only [List.setIfInBounds_toArray, List.set_cons_zero, List.set_cons_succ]
    refine wpAnyL_oneD (i := 17) 32 (by kernel_rfl) rfl rfl (fun K1 hK1 => ?_)
    refine step_append_at _ (by rfl) (.tmp 29) (.tmp 31) 38 (by rfl) W.heap.size 3 i3 (.int .i64 0) 1 8 Try.underlying38 hi hz0 hz1 hz2 rfl (by decide) _ _ _ (by rfl) hownb ⟨b1, 0, none⟩ 1 1 [.int .i64 (x : Int)] (by rfl) rfl (one_new _ _ _ hcx) (by simp [Value.oneCell']) (by unfold maxLen; omega) (by omega) hbb.size ?_
    intro v3 w3 hown3 hgrow3
    have hb3 := below_more hbb hownb hgrow3
    have hS3 : w3.cell? ⟨a, 1, none⟩ = some (.slice (some ⟨kb, 0, none⟩) n kc) ∧ w3.cell? ⟨kb, p, none⟩ = some (.slice (some ⟨g, 0, none⟩) len cap) := ⟨((hb3).cell (p := ⟨a, 1, none⟩) hal).trans c1', ((hb3).cell (p := ⟨kb, p, none⟩) hkl).trans ck'⟩
    refine hK1.out _ _ (fun _ => hS3) ?_
    clear hK1 K1 hS3
    simp only [List.setIfInBounds_toArray, List.set_cons_zero, List.set_cons_succ]
    refine wpAnyL_oneD (i := 27) 42 (by kernel_rfl) rfl rfl (fun K1 hK1 => ?_)
    refine step_append_at _ (by rfl) (.tmp 32) (.tmp 41) 38 (by rfl) W.heap.size 3 i3 (.int .i64 0) 1 8 Try.underlying38 hi hz0 hz1 hz2 rfl (by decide) _ _ _ (by rfl) hown3 A (len - i) (cap - i) (ints ((T.kids p).drop i)) (by rfl) HL2.out (HN2.out _ hb3) (HA.out _) (by unfold maxLen; omega) (by omega) hb3.size ?_
    intro v4 w4 hown4 hgrow4
    have hb4 := below_more hb3 hown3 hgrow4
    obtain ⟨g4, ao4, cap4, rfl, -, -⟩ := own_shape hown4
    have k3 := (hb4.cell (p := ⟨kb, p, none⟩) hkl).trans ck'
    have z3 := (hb4.frozen (p := ⟨kb, p, none⟩) hkl).trans zk
    have k4 := (hb4.cell (p := ⟨a, 1, none⟩) hal).trans c1'
    have hS : w4.cell? ⟨a, 1, none⟩ = some (.slice (some ⟨kb, 0, none⟩) n kc) ∧ w4.cell? ⟨kb, p, none⟩ = some (.slice (some ⟨g, 0, none⟩) len cap) := ⟨((hb4).cell (p := ⟨a, 1, none⟩) hal).trans c1', ((hb4).cell (p := ⟨kb, p, none⟩) hkl).trans ck'⟩
    refine hK1.out _ _ (fun _ => hS) ?_
    clear hK1 K1
    simp only [List.setIfInBounds_toArray, List.set_cons_zero, List.set_cons_succ]
    refine wpAnyL_take (i := 28) (v := ?v28) 43 rfl rfl (by kernel_rfl) (by kernel_rfl) (by kernel_rfl) (by kernel_rfl) (fun _ _ _ h => h) (by rfl) ?h28 hS ?r28
    case h28 => (intro w' hSw; obtain ⟨s1, s2⟩ := hSw; go_simp <;> with_reducible rfl)
    simp only [List.setIfInBounds_toArray, List.set_cons_zero, List.set_cons_succ]
    refine wpAnyL_one (i := 29) (by kernel_rfl) rfl (fun K1 hK1 => ?_)
    go_simp
    refine hK1.out _ _ (fun h => absurd rfl h) ?_
    clear hK1 K1
    refine wpAnyL_done (by kernel_rfl) ?_ _
    go_wp2_with fail
    go_end0
    have hfin := grove_set H.out (p := p) (x := x) (o := some p) (L := (T.kids p).take i ++ x :: (T.kids p).drop i) (w2 := w4) (v := .slice ao4 (i + 1 + (len - i)) cap4) (by rw [show (w.setCell ⟨pb, x, none⟩ (.int .i64 (pn (some p)))) = W from HW.out]; exact hb4) (by
      rw [show (w.setCell ⟨pb, x, none⟩ (.int .i64 (pn (some p)))) = W from HW.out]
      have e1 : ((T.kids p).take i ++ x :: (T.kids p).drop i).length = i + 1 + (len - i) := by simp; rw [HL.out]; omega
      rw [e1]
      have e2 : ints ((T.kids p).take i ++ x :: (T.kids p).drop i) = [] ++ ints ((T.kids p).take i) ++ [.int .i64 (x : Int)] ++ ints ((T.kids p).drop i) := by simp [ints]
      rw [e2]
      simpa using hown4)
    exact hfin
  case snd =>
    go_simp
    have hcx : (W.alloc (.cells #[.int .i64 (x : Int)] 3 (0, 0))).drew.cell? ⟨W.heap.size, 0, none⟩ = some (.int .i64 (x : Int)) := cell_new W 3 (.int .i64 (x : Int))
    obtain ⟨b1, hb1e⟩ : ∃ b1, W.heap.size = b1 := ⟨_, rfl⟩
    have hbA : Below W.heap.size W (W.alloc (.cells #[.int .i64 (x : Int)] 3 (0, 0))).drew := let q := below_alloc HB0.out (HB0.out).size (.cells #[.int .i64 (x : Int)] 3 (0, 0)); ⟨q.os, q.tape, q.output, q.size, q.block⟩
    obtain ⟨w1, hw1⟩ : ∃ w1, (W.alloc (.cells #[.int .i64 (x : Int)] 3 (0, 0))).drew = w1 := ⟨_, rfl⟩
    rw [hw1] at hcx hbA
    simp only [hw1, hb1e] at hcx ⊢
    have hcb : b1 < w1.heap.size := World.block_lt_of_cell? w1 _ hcx
    have hS1 : w1.cell? ⟨a, 1, none⟩ = some (.slice (some ⟨kb, 0, none⟩) n kc) ∧ w1.cell? ⟨kb, p, none⟩ = some (.slice (some ⟨g, 0, none⟩) len cap) := ⟨((hbA).cell (p := ⟨a, 1, none⟩) hal).trans c1', ((hbA).cell (p := ⟨kb, p, none⟩) hkl).trans ck'⟩
    refine hK1.out _ _ (fun _ => hS1) ?_
    clear hK1 K1 hS1 hw1
    try simp only [List.setIfInBounds_toArray, List.set_cons_zero, List.set_cons_succ]
    have hb1e' := Lib.hid hb1e
    clear hb1e
    refine wpAnyL_oneD (i := 14) 29 (by kernel_rfl) rfl rfl (fun K1 hK1 => ?_)
    refine step_append_at _ (by rfl) (.const (.slice none 0 0)) (.tmp 28) 38 (by rfl) W.heap.size 3 i3 (.int .i64 0) 1 8 Try.underlying38 hi hz0 hz1 hz2 rfl (by decide) (.slice none 0 0) 0 [] (by rfl) (World.ownsRow_nil _ _ _ _) ⟨g, 0, none⟩ i cap (ints ((T.kids p).take i)) (by rfl) HL1.out (HC1.out _ hbA) (HA.out _) (by unfold maxLen; omega) (by omega) (hbA).size ?_
    intro v1 w2 hown1 hgrow1
    have hbb := below_grown hbA (hbA).size hgrow1
    have hcx := (World.cell?_of_block (w := w1) (w' := w2) (a := ⟨b1, 0, none⟩) (hgrow1.block _ hcb (by simp [Value.ownBlock]))).trans hcx
    have hS2 : w2.cell? ⟨a, 1, none⟩ = some (.slice (some ⟨kb, 0, none⟩) n kc) ∧ w2.cell? ⟨kb, p, none⟩ = some (.slice (some ⟨g, 0, none⟩) len cap) := ⟨((hbb).cell (p := ⟨a, 1, none⟩) hal).trans c1', ((hbb).cell (p := ⟨kb, p, none⟩) hkl).trans ck'⟩
    refine hK1.out _ _ (fun _ => hS2) ?_
    clear hK1 K1 hS2
    simp only [List.setIfInBounds_toArray, List.set_cons_zero, List.set_cons_succ]
    refine wpAnyL_oneD (i := 17) 32 (by kernel_rfl) rfl rfl (fun K1 hK1 => ?_)
    refine step_append_at _ (by rfl) (.tmp 29) (.tmp 31) 38 (by rfl) W.heap.size 3 i3 (.int .i64 0) 1 8 Try.underlying38 hi hz0 hz1 hz2 rfl (by decide) _ _ _ (by rfl) hown1 ⟨b1, 0, none⟩ 1 1 [.int .i64 (x : Int)] (by rfl) rfl (one_new _ _ _ hcx) (by simp [Value.oneCell']) (by unfold maxLen; omega) (by omega) hbb.size ?_
    intro v3 w3 hown3 hgrow3
    have hb3 := below_more hbb hown1 hgrow3
    have hS3 : w3.cell? ⟨a, 1, none⟩ = some (.slice (some ⟨kb, 0, none⟩) n kc) ∧ w3.cell? ⟨kb, p, none⟩ = some (.slice (some ⟨g, 0, none⟩) len cap) := ⟨((hb3).cell (p := ⟨a, 1, none⟩) hal).trans c1', ((hb3).cell (p := ⟨kb, p, none⟩) hkl).trans ck'⟩
    refine hK1.out _ _ (fun _ => hS3) ?_
    clear hK1 K1 hS3
    simp only [List.setIfInBounds_toArray, List.set_cons_zero, List.set_cons_succ]
    refine wpAnyL_oneD (i := 27) 42 (by kernel_rfl) rfl rfl (fun K1 hK1 => ?_)
    refine step_append_at _ (by rfl) (.tmp 32) (.tmp 41) 38 (by rfl) W.heap.size 3 i3 (.int .i64 0) 1 8 Try.underlying38 hi hz0 hz1 hz2 rfl (by decide) _ _ _ (by rfl) hown3 A (len - i) (cap - i) (ints ((T.kids p).drop i)) (by rfl) HL2.out (HN2.out _ hb3) (HA.out _) (by unfold maxLen; omega) (by omega) hb3.size ?_
    intro v4 w4 hown4 hgrow4
    have hb4 := below_more hb3 hown3 hgrow4
    obtain ⟨g4, ao4, cap4, rfl, -, -⟩ := own_shape hown4
    have k3 := (hb4.cell (p := ⟨kb, p, none⟩) hkl).trans ck'
    have z3 := (hb4.frozen (p := ⟨kb, p, none⟩) hkl).trans zk
    have k4 := (hb4.cell (p := ⟨a, 1, none⟩) hal).trans c1'
    have hS : w4.cell? ⟨a, 1, none⟩ = some (.slice (some ⟨kb, 0, none⟩) n kc) ∧ w4.cell? ⟨kb, p, none⟩ = some (.slice (some ⟨g, 0, none⟩) len cap) := ⟨((hb4).cell (p := ⟨a, 1, none⟩) hal).trans c1', ((hb4).cell (p := ⟨kb, p, none⟩) hkl).trans ck'⟩
    refine hK1.out _ _ (fun _ => hS) ?_
    clear hK1 K1
    simp only [List.setIfInBounds_toArray, List.set_cons_zero, List.set_cons_succ]
    refine wpAnyL_take (i := 28) (v := ?v28b) 43 rfl rfl (by kernel_rfl) (by kernel_rfl) (by kernel_rfl) (by kernel_rfl) (fun _ _ _ h => h) (by rfl) ?h28b hS ?r28b
    case h28b => (intro w' hSw; obtain ⟨s1, s2⟩ := hSw; go_simp <;> with_reducible rfl)
    simp only [List.setIfInBounds_toArray, List.set_cons_zero, List.set_cons_succ]
    refine wpAnyL_one (i := 29) (by kernel_rfl) rfl (fun K1 hK1 => ?_)
    go_simp
    refine hK1.out _ _ (fun h => absurd rfl h) ?_
    clear hK1 K1
    refine wpAnyL_done (by kernel_rfl) ?_ _
    go_wp2_with fail
    go_end0
    have hfin := grove_set H.out (p := p) (x := x) (o := some p) (L := (T.kids p).take i ++ x :: (T.kids p).drop i) (w2 := w4) (v := .slice ao4 (i + 1 + (len - i)) cap4) (by rw [show (w.setCell ⟨pb, x, none⟩ (.int .i64 (pn (some p)))) = W from HW.out]; exact hb4) (by
      rw [show (w.setCell ⟨pb, x, none⟩ (.int .i64 (pn (some p)))) = W from HW.out]
      have e1 : ((T.kids p).take i ++ x :: (T.kids p).drop i).length = i + 1 + (len - i) := by simp; rw [HL.out]; omega
      rw [e1]
      have e2 : ints ((T.kids p).take i ++ x :: (T.kids p).drop i) = [] ++ ints ((T.kids p).take i) ++ [.int .i64 (x : Int)] ++ ints ((T.kids p).drop i) := by simp [ints]
      rw [e2]
      simpa using hown4)
    exact hfin

set_option maxRecDepth 100000 in
set_option maxHeartbeats 3200000 in
theorem put_nil (h : GR w n a pb pc kb kc T K) (hlen : ∀ i, (T.kids i).length ≤ 1000) {p i x : Nat} (hp : p < n) (hil : i ≤ (T.kids p).length) (hxn : x < n)
    (hv : K p = .slice none 0 0) (hk0 : T.kids p = []) :
    Calls Try.prog 21 #[.pointer (some ⟨a, 0, none⟩), .int .i64 p, .int .i64 i, .int .i64 x] w (GPost w n a pb pc kb kc (T.put p i x)) := by
  obtain ⟨i3, hi, hz0, hz1, hz2⟩ := info_parts Try.info3
  have hl := hlen p
  have c0 := h.c0
  have c1 := h.c1
  have ck := h.kid_at hp
  have cp := h.par_at hxn
  have zp := h.par.frozenAt x
  rw [hv] at ck
  have hi00 : i = 0 := by rw [hk0] at hil; simpa using hil
  subst hi00
  have HK0 := Lib.hid hk0
  clear hk0
  have hp0 : (0 : Int) ≤ (p : Int) := Int.natCast_nonneg _
  have hp1 : (p : Int) < (n : Int) := by omega
  have hx0 : (0 : Int) ≤ (x : Int) := Int.natCast_nonneg _
  have hx1 : (x : Int) < (n : Int) := by omega
  have H := Lib.hid h
  have HV := Lib.hid hv
  clear h hlen hv
  go_enter Try.func21, Try.ntmps21
  go_wp2_with fail
  obtain ⟨W, hW⟩ : ∃ W, w.setCell ⟨pb, x, none⟩ (.int .i64 p) = W := ⟨_, rfl⟩
  rw [hW]
  have HW := Lib.hid hW
  have hst2 : ∀ b o u, b ≠ pb → w.cell? ⟨b, o, none⟩ = some u → W.cell? ⟨b, o, none⟩ = some u := fun b o u hb hc => by
    rw [← hW, World.cell?_of_block (w := w) (Below.heap_setCell _ _ _ _ hb)]; exact hc
  have c1' := hst2 a 1 _ H.out.a_pb c1
  have ck' := hst2 kb p _ (Ne.symm H.out.pb_kb) ck
  clear hW hst2 c0 c1 ck cp zp
  have hsz : W.heap.size = w.heap.size := by rw [← HW.out]; simp [World.setCell]
  have hall : ∀ l : List Nat, ∀ u ∈ ints l, u.oneCell' = true := fun l u hu => by
    simp only [ints, List.mem_map] at hu; obtain ⟨y, -, rfl⟩ := hu; rfl
  have HA := Lib.hid hall
  have hal : a < W.heap.size := by have := H.out.a_lt; omega
  have hkl : kb < W.heap.size := by have := H.out.kb_lt; omega
  have zk : W.frozen? ⟨kb, p, none⟩ = false := by
    rw [← HW.out, World.frozen?_of_block (w := w) (Below.heap_setCell _ _ _ _ (Ne.symm H.out.pb_kb))]; exact H.out.kid.frozenAt p
  have hb0 : Below W.heap.size W W.drew := ⟨rfl, rfl, rfl, Nat.le_refl _, fun _ _ => rfl⟩
  have HB0 := Lib.hid hb0
  clear hall hb0
  clear hsz
  have hS : W.drew.cell? ⟨a, 1, none⟩ = some (.slice (some ⟨kb, 0, none⟩) n kc) ∧ W.drew.cell? ⟨kb, p, none⟩ = some (.slice none 0 0) := ⟨c1', ck'⟩
  refine wp_region_last (fun w' => w'.cell? ⟨a, 1, none⟩ = some (.slice (some ⟨kb, 0, none⟩) n kc) ∧ w'.cell? ⟨kb, p, none⟩ = some (.slice none 0 0)) 29 (by kernel_rfl) ?_
  refine wpAnyL_take (i := 0) (v := ?v0) 15 rfl rfl (by kernel_rfl) (by kernel_rfl) (by kernel_rfl) (by kernel_rfl) (fun _ _ _ h => h) (by rfl) ?h0 hS ?r0
  case h0 => (intro w' hSw; obtain ⟨s1, s2⟩ := hSw; go_simp <;> with_reducible rfl)
  simp only [List.setIfInBounds_toArray, List.set_cons_zero, List.set_cons_succ]
  refine wpAnyL_take (i := 1) (v := ?v1) 16 rfl rfl (by kernel_rfl) (by kernel_rfl) (by kernel_rfl) (by kernel_rfl) (fun _ _ _ h => h) (by rfl) ?h1 hS ?r1
  case h1 => (intro w' hSw; obtain ⟨s1, s2⟩ := hSw; go_simp <;> with_reducible rfl)
  simp only [List.setIfInBounds_toArray, List.set_cons_zero, List.set_cons_succ]
  refine wpAnyL_take (i := 2) (v := ?v2) 17 rfl rfl (by kernel_rfl) (by kernel_rfl) (by kernel_rfl) (by kernel_rfl) (fun _ _ _ h => h) (by rfl) ?h2 hS ?r2
  case h2 => (intro w' hSw; obtain ⟨s1, s2⟩ := hSw; go_simp <;> with_reducible rfl)
  simp only [List.setIfInBounds_toArray, List.set_cons_zero, List.set_cons_succ]
  refine wpAnyL_take (i := 3) (v := ?v3) 18 rfl rfl (by kernel_rfl) (by kernel_rfl) (by kernel_rfl) (by kernel_rfl) (fun _ _ _ h => h) (by rfl) ?h3 hS ?r3
  case h3 => (intro w' hSw; obtain ⟨s1, s2⟩ := hSw; go_simp <;> with_reducible rfl)
  simp only [List.setIfInBounds_toArray, List.set_cons_zero, List.set_cons_succ]
  refine wpAnyL_take (i := 4) (v := ?v4) 19 rfl rfl (by kernel_rfl) (by kernel_rfl) (by kernel_rfl) (by kernel_rfl) (fun _ _ _ h => h) (by rfl) ?h4 hS ?r4
  case h4 => (intro w' hSw; obtain ⟨s1, s2⟩ := hSw; go_simp <;> with_reducible rfl)
  simp only [List.setIfInBounds_toArray, List.set_cons_zero, List.set_cons_succ]
  refine wpAnyL_take (i := 5) (v := ?v5) 20 rfl rfl (by kernel_rfl) (by kernel_rfl) (by kernel_rfl) (by kernel_rfl) (fun _ _ _ h => h) (by rfl) ?h5 hS ?r5
  case h5 => (intro w' hSw; obtain ⟨s1, s2⟩ := hSw; go_simp <;> with_reducible rfl)
  simp only [List.setIfInBounds_toArray, List.set_cons_zero, List.set_cons_succ]
  refine wpAnyL_take (i := 6) (v := ?v6) 21 rfl rfl (by kernel_rfl) (by kernel_rfl) (by kernel_rfl) (by kernel_rfl) (fun _ _ _ h => h) (by rfl) ?h6 hS ?r6
  case h6 => (intro w' hSw; obtain ⟨s1, s2⟩ := hSw; go_simp <;> with_reducible rfl)
  simp only [List.setIfInBounds_toArray, List.set_cons_zero, List.set_cons_succ]
  refine wpAnyL_take (i := 7) (v := ?v7) 22 rfl rfl (by kernel_rfl) (by kernel_rfl) (by kernel_rfl) (by kernel_rfl) (fun _ _ _ h => h) (by rfl) ?h7 hS ?r7
  case h7 => (intro w' hSw; obtain ⟨s1, s2⟩ := hSw; go_simp <;> with_reducible rfl)
  simp only [List.setIfInBounds_toArray, List.set_cons_zero, List.set_cons_succ]
  refine wpAnyL_take (i := 8) (v := ?v8) 23 rfl rfl (by kernel_rfl) (by kernel_rfl) (by kernel_rfl) (by kernel_rfl) (fun _ _ _ h => h) (by rfl) ?h8 hS ?r8
  case h8 => (intro w' hSw; obtain ⟨s1, s2⟩ := hSw; go_simp <;> with_reducible rfl)
  simp only [List.setIfInBounds_toArray, List.set_cons_zero, List.set_cons_succ]
  refine wpAnyL_take (i := 9) (v := ?v9) 24 rfl rfl (by kernel_rfl) (by kernel_rfl) (by kernel_rfl) (by kernel_rfl) (fun _ _ _ h => h) (by rfl) ?h9 hS ?r9
  case h9 => (intro w' hSw; obtain ⟨s1, s2⟩ := hSw; go_simp <;> with_reducible rfl)
  simp only [List.setIfInBounds_toArray, List.set_cons_zero, List.set_cons_succ]
  refine wpAnyL_take (i := 10) (v := ?v10) 25 rfl rfl (by kernel_rfl) (by kernel_rfl) (by kernel_rfl) (by kernel_rfl) (fun _ _ _ h => h) (by rfl) ?h10 hS ?r10
  case h10 => (intro w' hSw; obtain ⟨s1, s2⟩ := hSw; go_simp <;> with_reducible rfl)
  simp only [List.setIfInBounds_toArray, List.set_cons_zero, List.set_cons_succ]
  refine wpAnyL_take (i := 11) (v := ?v11) 26 rfl rfl (by kernel_rfl) (by kernel_rfl) (by kernel_rfl) (by kernel_rfl) (fun _ _ _ h => h) (by rfl) ?h11 hS ?r11
  case h11 => (intro w' hSw; obtain ⟨s1, s2⟩ := hSw; go_simp <;> with_reducible rfl)
  simp only [List.setIfInBounds_toArray, List.set_cons_zero, List.set_cons_succ]
  refine wpAnyL_take (i := 12) (v := ?v12) 27 rfl rfl (by kernel_rfl) (by kernel_rfl) (by kernel_rfl) (by kernel_rfl) (fun _ _ _ h => h) (by rfl) ?h12 hS ?r12
  case h12 => (intro w' hSw; obtain ⟨s1, s2⟩ := hSw; go_simp <;> with_reducible rfl)
  simp only [List.setIfInBounds_toArray, List.set_cons_zero, List.set_cons_succ]
  refine wpAnyL_take (i := 13) (v := ?v13) 28 rfl rfl (by kernel_rfl) (by kernel_rfl) (by kernel_rfl) (by kernel_rfl) (fun _ _ _ h => h) (by rfl) ?h13 hS ?r13
  case h13 => (intro w' hSw; obtain ⟨s1, s2⟩ := hSw; go_simp <;> with_reducible rfl)
  simp only [List.setIfInBounds_toArray, List.set_cons_zero, List.set_cons_succ]
  refine wpAnyL_take (i := 15) (v := ?v15) 30 rfl rfl (by kernel_rfl) (by kernel_rfl) (by kernel_rfl) (by kernel_rfl) (fun _ _ _ h => h) (by rfl) ?h15 hS ?r15
  case h15 => (intro w' hSw; obtain ⟨s1, s2⟩ := hSw; go_simp <;> with_reducible rfl)
  simp only [List.setIfInBounds_toArray, List.set_cons_zero, List.set_cons_succ]
  refine wpAnyL_take (i := 18) (v := ?v18) 33 rfl rfl (by kernel_rfl) (by kernel_rfl) (by kernel_rfl) (by kernel_rfl) (fun _ _ _ h => h) (by rfl) ?h18 hS ?r18
  case h18 => (intro w' hSw; obtain ⟨s1, s2⟩ := hSw; go_simp <;> with_reducible rfl)
  simp only [List.setIfInBounds_toArray, List.set_cons_zero, List.set_cons_succ]
  refine wpAnyL_take (i := 19) (v := ?v19) 34 rfl rfl (by kernel_rfl) (by kernel_rfl) (by kernel_rfl) (by kernel_rfl) (fun _ _ _ h => h) (by rfl) ?h19 hS ?r19
  case h19 => (intro w' hSw; obtain ⟨s1, s2⟩ := hSw; go_simp <;> with_reducible rfl)
  simp only [List.setIfInBounds_toArray, List.set_cons_zero, List.set_cons_succ]
  refine wpAnyL_take (i := 20) (v := ?v20) 35 rfl rfl (by kernel_rfl) (by kernel_rfl) (by kernel_rfl) (by kernel_rfl) (fun _ _ _ h => h) (by rfl) ?h20 hS ?r20
  case h20 => (intro w' hSw; obtain ⟨s1, s2⟩ := hSw; go_simp <;> with_reducible rfl)
  simp only [List.setIfInBounds_toArray, List.set_cons_zero, List.set_cons_succ]
  refine wpAnyL_take (i := 21) (v := ?v21) 36 rfl rfl (by kernel_rfl) (by kernel_rfl) (by kernel_rfl) (by kernel_rfl) (fun _ _ _ h => h) (by rfl) ?h21 hS ?r21
  case h21 => (intro w' hSw; obtain ⟨s1, s2⟩ := hSw; go_simp <;> with_reducible rfl)
  simp only [List.setIfInBounds_toArray, List.set_cons_zero, List.set_cons_succ]
  refine wpAnyL_take (i := 22) (v := ?v22) 37 rfl rfl (by kernel_rfl) (by kernel_rfl) (by kernel_rfl) (by kernel_rfl) (fun _ _ _ h => h) (by rfl) ?h22 hS ?r22
  case h22 => (intro w' hSw; obtain ⟨s1, s2⟩ := hSw; go_simp <;> with_reducible rfl)
  simp only [List.setIfInBounds_toArray, List.set_cons_zero, List.set_cons_succ]
  refine wpAnyL_take (i := 23) (v := ?v23) 38 rfl rfl (by kernel_rfl) (by kernel_rfl) (by kernel_rfl) (by kernel_rfl) (fun _ _ _ h => h) (by rfl) ?h23 hS ?r23
  case h23 => (intro w' hSw; obtain ⟨s1, s2⟩ := hSw; go_simp <;> with_reducible rfl)
  simp only [List.setIfInBounds_toArray, List.set_cons_zero, List.set_cons_succ]
  refine wpAnyL_take (i := 24) (v := ?v24) 39 rfl rfl (by kernel_rfl) (by kernel_rfl) (by kernel_rfl) (by kernel_rfl) (fun _ _ _ h => h) (by rfl) ?h24 hS ?r24
  case h24 => (intro w' hSw; obtain ⟨s1, s2⟩ := hSw; go_simp <;> with_reducible rfl)
  simp only [List.setIfInBounds_toArray, List.set_cons_zero, List.set_cons_succ]
  refine wpAnyL_take (i := 25) (v := ?v25) 40 rfl rfl (by kernel_rfl) (by kernel_rfl) (by kernel_rfl) (by kernel_rfl) (fun _ _ _ h => h) (by rfl) ?h25 hS ?r25
  case h25 => (intro w' hSw; obtain ⟨s1, s2⟩ := hSw; go_simp <;> with_reducible rfl)
  simp only [List.setIfInBounds_toArray, List.set_cons_zero, List.set_cons_succ]
  refine wpAnyL_take (i := 26) (v := ?v26) 41 rfl rfl (by kernel_rfl) (by kernel_rfl) (by kernel_rfl) (by kernel_rfl) (fun _ _ _ h => h) (by rfl) ?h26 hS ?r26
  case h26 => (intro w' hSw; obtain ⟨s1, s2⟩ := hSw; go_simp <;> with_reducible rfl)
  simp only [List.setIfInBounds_toArray, List.set_cons_zero, List.set_cons_succ]
  refine wpAnyL_twoM (i := 14) (i' := 16) 29 (by kernel_rfl) rfl rfl rfl (fun K1 hK1 => ?fst) (fun K1 hK1 => ?snd)
  case fst =>
    refine step_append_nil _ (by rfl) (.const (.slice none 0 0)) (.tmp 28) 38 (by rfl) W.heap.size 3 i3 1 Try.underlying38 hi (.slice none 0 0) 0 [] (by rfl) (World.ownsRow_nil _ _ _ _) (by rfl) ?_
    obtain ⟨w1, he⟩ : ∃ w1, W.drew = w1 := ⟨_, rfl⟩
    have hb1 : Below W.heap.size W w1 := he ▸ HB0.out
    have hown1 : w1.ownsRow W.heap.size 3 1 (.slice none 0 0) 0 [] := World.ownsRow_nil _ _ _ _
    rw [he]
    have hS1 : w1.cell? ⟨a, 1, none⟩ = some (.slice (some ⟨kb, 0, none⟩) n kc) ∧ w1.cell? ⟨kb, p, none⟩ = some (.slice none 0 0) := ⟨((hb1).cell (p := ⟨a, 1, none⟩) hal).trans c1', ((hb1).cell (p := ⟨kb, p, none⟩) hkl).trans ck'⟩
    refine hK1.out _ _ (fun _ => hS1) ?_
    clear hK1 K1 hS1
    simp only [List.setIfInBounds_toArray, List.set_cons_zero, List.set_cons_succ]
    refine wpAnyL_one (i := 16) (by kernel_rfl) rfl (fun K1 hK1 => ?_)
    go_simp
    have hcx := cell_new w1 3 (.int .i64 (x : Int))
    obtain ⟨b1, hb1e⟩ : ∃ b1, w1.heap.size = b1 := ⟨_, rfl⟩
    have hbb := below_alloc hb1 (hb1).size (.cells #[.int .i64 (x : Int)] 3 (0, 0))
    have hownb := row_alloc hown1 (.cells #[.int .i64 (x : Int)] 3 (0, 0))
    simp only [hb1e] at hcx ⊢
    obtain ⟨w2, hw2⟩ : ∃ w2, w1.alloc (.cells #[.int .i64 (x : Int)] 3 (0, 0)) = w2 := ⟨_, rfl⟩
    simp only [hw2] at hcx hbb hownb ⊢
    have hS2 : w2.cell? ⟨a, 1, none⟩ = some (.slice (some ⟨kb, 0, none⟩) n kc) ∧ w2.cell? ⟨kb, p, none⟩ = some (.slice none 0 0) := ⟨((hbb).cell (p := ⟨a, 1, none⟩) hal).trans c1', ((hbb).cell (p := ⟨kb, p, none⟩) hkl).trans ck'⟩
    refine hK1.out _ _ (fun _ => hS2) ?_
    clear hK1 K1 hS2 hw2 hb1e
    try simp only [List.setIfInBounds_toArray, List.set_cons_zero, List.set_cons_succ]
    refine wpAnyL_oneD (i := 17) 32 (by kernel_rfl) rfl rfl (fun K1 hK1 => ?_)
    refine step_append_at _ (by rfl) (.tmp 29) (.tmp 31) 38 (by rfl) W.heap.size 3 i3 (.int .i64 0) 1 8 Try.underlying38 hi hz0 hz1 hz2 rfl (by decide) _ _ _ (by rfl) hownb ⟨b1, 0, none⟩ 1 1 [.int .i64 (x : Int)] (by rfl) rfl (one_new _ _ _ hcx) (by simp [Value.oneCell']) (by unfold maxLen; omega) (by omega) hbb.size ?_
    intro v3 w3 hown3 hgrow3
    have hb3 := below_more hbb hownb hgrow3
    have hS3 : w3.cell? ⟨a, 1, none⟩ = some (.slice (some ⟨kb, 0, none⟩) n kc) ∧ w3.cell? ⟨kb, p, none⟩ = some (.slice none 0 0) := ⟨((hb3).cell (p := ⟨a, 1, none⟩) hal).trans c1', ((hb3).cell (p := ⟨kb, p, none⟩) hkl).trans ck'⟩
    refine hK1.out _ _ (fun _ => hS3) ?_
    clear hK1 K1 hS3
    simp only [List.setIfInBounds_toArray, List.set_cons_zero, List.set_cons_succ]
    refine wpAnyL_oneD (i := 27) 42 (by kernel_rfl) rfl rfl (fun K1 hK1 => ?_)
    refine step_append_nil _ (by rfl) (.tmp 32) (.tmp 41) 38 (by rfl) W.heap.size 3 i3 1 Try.underlying38 hi _ _ _ (by rfl) hown3 (by rfl) ?_
    obtain ⟨w4, he4⟩ : ∃ w4, w3 = w4 := ⟨_, rfl⟩
    rw [he4]
    have hb4 := hb3
    have hown4 := hown3
    rw [he4] at hb4 hown4
    clear he4
    obtain ⟨g4, ao4, cap4, rfl, -, -⟩ := own_shape hown4
    have k3 := (hb4.cell (p := ⟨kb, p, none⟩) hkl).trans ck'
    have z3 := (hb4.frozen (p := ⟨kb, p, none⟩) hkl).trans zk
    have k4 := (hb4.cell (p := ⟨a, 1, none⟩) hal).trans c1'
    have hS : w4.cell? ⟨a, 1, none⟩ = some (.slice (some ⟨kb, 0, none⟩) n kc) ∧ w4.cell? ⟨kb, p, none⟩ = some (.slice none 0 0) := ⟨((hb4).cell (p := ⟨a, 1, none⟩) hal).trans c1', ((hb4).cell (p := ⟨kb, p, none⟩) hkl).trans ck'⟩
    refine hK1.out _ _ (fun _ => hS) ?_
    clear hK1 K1
    simp only [List.setIfInBounds_toArray, List.set_cons_zero, List.set_cons_succ]
    refine wpAnyL_take (i := 28) (v := ?v28) 43 rfl rfl (by kernel_rfl) (by kernel_rfl) (by kernel_rfl) (by kernel_rfl) (fun _ _ _ h => h) (by rfl) ?h28 hS ?r28
    case h28 => (intro w' hSw; obtain ⟨s1, s2⟩ := hSw; go_simp <;> with_reducible rfl)
    simp only [List.setIfInBounds_toArray, List.set_cons_zero, List.set_cons_succ]
    refine wpAnyL_one (i := 29) (by kernel_rfl) rfl (fun K1 hK1 => ?_)
    go_simp
    refine hK1.out _ _ (fun h => absurd rfl h) ?_
    clear hK1 K1
    refine wpAnyL_done (by kernel_rfl) ?_ _
    go_wp2_with fail
    go_end0
    have hfin := grove_set H.out (p := p) (x := x) (o := some p) (L := (T.kids p).take 0 ++ x :: (T.kids p).drop 0) (w2 := w4) (v := .slice ao4 (0 + 1) cap4) (by rw [show (w.setCell ⟨pb, x, none⟩ (.int .i64 (pn (some p)))) = W from HW.out]; exact hb4) (by
      rw [show (w.setCell ⟨pb, x, none⟩ (.int .i64 (pn (some p)))) = W from HW.out]
      rw [HK0.out]
      simpa [ints] using hown4)
    exact hfin
  case snd =>
    go_simp
    have hcx : (W.alloc (.cells #[.int .i64 (x : Int)] 3 (0, 0))).drew.cell? ⟨W.heap.size, 0, none⟩ = some (.int .i64 (x : Int)) := cell_new W 3 (.int .i64 (x : Int))
    obtain ⟨b1, hb1e⟩ : ∃ b1, W.heap.size = b1 := ⟨_, rfl⟩
    have hbA : Below W.heap.size W (W.alloc (.cells #[.int .i64 (x : Int)] 3 (0, 0))).drew := let q := below_alloc HB0.out (HB0.out).size (.cells #[.int .i64 (x : Int)] 3 (0, 0)); ⟨q.os, q.tape, q.output, q.size, q.block⟩
    obtain ⟨w1, hw1⟩ : ∃ w1, (W.alloc (.cells #[.int .i64 (x : Int)] 3 (0, 0))).drew = w1 := ⟨_, rfl⟩
    rw [hw1] at hcx hbA
    simp only [hw1, hb1e] at hcx ⊢
    have hcb : b1 < w1.heap.size := World.block_lt_of_cell? w1 _ hcx
    have hS1 : w1.cell? ⟨a, 1, none⟩ = some (.slice (some ⟨kb, 0, none⟩) n kc) ∧ w1.cell? ⟨kb, p, none⟩ = some (.slice none 0 0) := ⟨((hbA).cell (p := ⟨a, 1, none⟩) hal).trans c1', ((hbA).cell (p := ⟨kb, p, none⟩) hkl).trans ck'⟩
    refine hK1.out _ _ (fun _ => hS1) ?_
    clear hK1 K1 hS1 hw1
    try simp only [List.setIfInBounds_toArray, List.set_cons_zero, List.set_cons_succ]
    have hb1e' := Lib.hid hb1e
    clear hb1e
    refine wpAnyL_oneD (i := 14) 29 (by kernel_rfl) rfl rfl (fun K1 hK1 => ?_)
    refine step_append_nil _ (by rfl) (.const (.slice none 0 0)) (.tmp 28) 38 (by rfl) W.heap.size 3 i3 1 Try.underlying38 hi (.slice none 0 0) 0 [] (by rfl) (World.ownsRow_nil _ _ _ _) (by rfl) ?_
    obtain ⟨w2, he⟩ : ∃ w2, w1 = w2 := ⟨_, rfl⟩
    have hbb : Below W.heap.size W w2 := he ▸ hbA
    have hown1 : w2.ownsRow W.heap.size 3 1 (.slice none 0 0) 0 [] := World.ownsRow_nil _ _ _ _
    rw [he] at hcx
    rw [he]
    have hS2 : w2.cell? ⟨a, 1, none⟩ = some (.slice (some ⟨kb, 0, none⟩) n kc) ∧ w2.cell? ⟨kb, p, none⟩ = some (.slice none 0 0) := ⟨((hbb).cell (p := ⟨a, 1, none⟩) hal).trans c1', ((hbb).cell (p := ⟨kb, p, none⟩) hkl).trans ck'⟩
    refine hK1.out _ _ (fun _ => hS2) ?_
    clear hK1 K1 hS2
    simp only [List.setIfInBounds_toArray, List.set_cons_zero, List.set_cons_succ]
    refine wpAnyL_oneD (i := 17) 32 (by kernel_rfl) rfl rfl (fun K1 hK1 => ?_)
    refine step_append_at _ (by rfl) (.tmp 29) (.tmp 31) 38 (by rfl) W.heap.size 3 i3 (.int .i64 0) 1 8 Try.underlying38 hi hz0 hz1 hz2 rfl (by decide) _ _ _ (by rfl) hown1 ⟨b1, 0, none⟩ 1 1 [.int .i64 (x : Int)] (by rfl) rfl (one_new _ _ _ hcx) (by simp [Value.oneCell']) (by unfold maxLen; omega) (by omega) hbb.size ?_
    intro v3 w3 hown3 hgrow3
    have hb3 := below_more hbb hown1 hgrow3
    have hS3 : w3.cell? ⟨a, 1, none⟩ = some (.slice (some ⟨kb, 0, none⟩) n kc) ∧ w3.cell? ⟨kb, p, none⟩ = some (.slice none 0 0) := ⟨((hb3).cell (p := ⟨a, 1, none⟩) hal).trans c1', ((hb3).cell (p := ⟨kb, p, none⟩) hkl).trans ck'⟩
    refine hK1.out _ _ (fun _ => hS3) ?_
    clear hK1 K1 hS3
    simp only [List.setIfInBounds_toArray, List.set_cons_zero, List.set_cons_succ]
    refine wpAnyL_oneD (i := 27) 42 (by kernel_rfl) rfl rfl (fun K1 hK1 => ?_)
    refine step_append_nil _ (by rfl) (.tmp 32) (.tmp 41) 38 (by rfl) W.heap.size 3 i3 1 Try.underlying38 hi _ _ _ (by rfl) hown3 (by rfl) ?_
    obtain ⟨w4, he4⟩ : ∃ w4, w3 = w4 := ⟨_, rfl⟩
    rw [he4]
    have hb4 := hb3
    have hown4 := hown3
    rw [he4] at hb4 hown4
    clear he4
    obtain ⟨g4, ao4, cap4, rfl, -, -⟩ := own_shape hown4
    have k3 := (hb4.cell (p := ⟨kb, p, none⟩) hkl).trans ck'
    have z3 := (hb4.frozen (p := ⟨kb, p, none⟩) hkl).trans zk
    have k4 := (hb4.cell (p := ⟨a, 1, none⟩) hal).trans c1'
    have hS : w4.cell? ⟨a, 1, none⟩ = some (.slice (some ⟨kb, 0, none⟩) n kc) ∧ w4.cell? ⟨kb, p, none⟩ = some (.slice none 0 0) := ⟨((hb4).cell (p := ⟨a, 1, none⟩) hal).trans c1', ((hb4).cell (p := ⟨kb, p, none⟩) hkl).trans ck'⟩
    refine hK1.out _ _ (fun _ => hS) ?_
    clear hK1 K1
    simp only [List.setIfInBounds_toArray, List.set_cons_zero, List.set_cons_succ]
    refine wpAnyL_take (i := 28) (v := ?v28b) 43 rfl rfl (by kernel_rfl) (by kernel_rfl) (by kernel_rfl) (by kernel_rfl) (fun _ _ _ h => h) (by rfl) ?h28b hS ?r28b
    case h28b => (intro w' hSw; obtain ⟨s1, s2⟩ := hSw; go_simp <;> with_reducible rfl)
    simp only [List.setIfInBounds_toArray, List.set_cons_zero, List.set_cons_succ]
    refine wpAnyL_one (i := 29) (by kernel_rfl) rfl (fun K1 hK1 => ?_)
    go_simp
    refine hK1.out _ _ (fun h => absurd rfl h) ?_
    clear hK1 K1
    refine wpAnyL_done (by kernel_rfl) ?_ _
    go_wp2_with fail
    go_end0
    have hfin := grove_set H.out (p := p) (x := x) (o := some p) (L := (T.kids p).take 0 ++ x :: (T.kids p).drop 0) (w2 := w4) (v := .slice ao4 (0 + 1) cap4) (by rw [show (w.setCell ⟨pb, x, none⟩ (.int .i64 (pn (some p)))) = W from HW.out]; exact hb4) (by
      rw [show (w.setCell ⟨pb, x, none⟩ (.int .i64 (pn (some p)))) = W from HW.out]
      rw [HK0.out]
      simpa [ints] using hown4)
    exact hfin

theorem put_c (h : GR w n a pb pc kb kc T K) (hlen : ∀ i, (T.kids i).length ≤ 1000) {p i x : Nat} (hp : p < n) (hil : i ≤ (T.kids p).length) (hxn : x < n) :
    Calls Try.prog 21 #[.pointer (some ⟨a, 0, none⟩), .int .i64 p, .int .i64 i, .int .i64 x] w (GPost w n a pb pc kb kc (T.put p i x)) := by
  have hr := h.row p hp
  have hlt := hr.lt
  have hr' := hr
  obtain ⟨hl0, ⟨hv, hk0⟩ | ⟨g, cap, cur, hv, hb, hg, hcap, _⟩⟩ := hr'
  · refine put_nil h hlen hp hil hxn ?_ ?_
    · rw [hv]
    · cases hk : T.kids p with | nil => rfl | cons y l => simp [hk] at hk0
  · exact put_some h hlen hp hil hxn g cap hv hcap (hlt g (by rw [hv]; rfl)).2 (fun k hk => by rw [hv] at hr; exact hr.cellAt k (by omega))
end
end Go.Proofs.Ytlggpodblabmdaa
