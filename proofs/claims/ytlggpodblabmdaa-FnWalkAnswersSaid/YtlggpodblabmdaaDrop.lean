/-
  The reference's drop and put by contracts; a lemma text, no statement of the seat.
-/
import Derived.Test.YtlggpodblabmdaaGroveSet
import Derived.Deep.RegionHeld3
import Derived.Test.YtlggpodblabmdaaLast
import Derived.Laws.AppendOwnNone
namespace Go.Proofs.Ytlggpodblabmdaa
open Go.RowKit

section
variable {P : Program} (w : World)
/-- An append at a step of a region that draws, whatever is appended. -/
theorem step_append_at {ops : Array Oper} {o : Oper} {a : Act} {K : Act → World → Prop} {Q : Exit → Act → World → Prop} {E : Prop} (hgd : o.guard = none) (s x : Operand) (t : TypeId)
    (ho : o.op = .call { callee := .builtin .append, args := #[s, x], argTypes := #[t, t] })
    (base : Nat) (e : TypeId) (i : TypeInfo) (z : Value) (size bytes : Nat) (ht : P.underlying t = some (.slice e)) (hi : P.info? e = some i) (hz : i.zero = some z)
    (hsize : i.size = size) (hby : i.bytes = bytes) (hzs : z.cells.size = size) (hsz : 0 < size)
    (v : Value) (n : Nat) (xs : List Value) (hs : a.eval s = v) (hown : w.ownsRow base e size v n xs)
    (ad : Addr) (m c : Nat) (news : List Value) (hx : a.eval x = .slice (some ad) m c) (hl : news.length = m * size) (hnews : ∀ j u, news[j]? = some u → w.cell? (ad.add j) = some u) (h1 : ∀ u ∈ news, u.oneCell' = true)
    (h63 : n + m ≤ maxLen) (hbytes : (n + m) * bytes ≤ 140737488355328) (hbase : base ≤ w.heap.size)
    (h : ∀ v' w', w'.ownsRow base e size v' (n + m) (xs ++ news) → w.grownBy w' v.ownBlock → K (a.put o.dst v') w') :
    if Region.wanted o (yielded ops a.tmps) = true then Oper.wp P o a w K Q else E := by
  have hw : Region.wanted o (yielded ops a.tmps) = true := by simp [Region.wanted, hgd]
  rw [if_pos hw]
  obtain ⟨v', w', hr, h2, h3, _⟩ := run_append_own_at (P := P) w base t o.type e i z size bytes ht hi hz hsize hby hzs hsz v n xs hown ad m c news hl hnews h1 h63 hbytes hbase
  unfold Oper.wp execOp
  simp only [ho, resolve, invoke, builtin, Sem.run_bind, Sem.run_pure, Result.andThen_ok, List.map_toArray, List.map_cons, List.map_nil, hs, hx, hr]
  exact h v' w' h2 h3
end

section
variable {P : Program} (w : World)
/-- An append of nothing at a step of a region that draws. -/
theorem step_append_nil {ops : Array Oper} {o : Oper} {a : Act} {K : Act → World → Prop} {Q : Exit → Act → World → Prop} {E : Prop} (hgd : o.guard = none) (s x : Operand) (t : TypeId)
    (ho : o.op = .call { callee := .builtin .append, args := #[s, x], argTypes := #[t, t] })
    (base : Nat) (e : TypeId) (i : TypeInfo) (size : Nat) (ht : P.underlying t = some (.slice e)) (hi : P.info? e = some i)
    (v : Value) (n : Nat) (xs : List Value) (hs : a.eval s = v) (hown : w.ownsRow base e size v n xs) (hx : a.eval x = .slice none 0 0) (h : K (a.put o.dst v) w) :
    if Region.wanted o (yielded ops a.tmps) = true then Oper.wp P o a w K Q else E := by
  have hw : Region.wanted o (yielded ops a.tmps) = true := by simp [Region.wanted, hgd]
  rw [if_pos hw]
  have hr := run_append_owned_none (P := P) (w := w) base t o.type e i size ht hi v n xs hown
  unfold Oper.wp execOp
  simp only [ho, resolve, invoke, builtin, Sem.run_bind, Sem.run_pure, Result.andThen_ok, List.map_toArray, List.map_cons, List.map_nil, hs, hx, hr]
  exact h
end

theorem add_block (x : Addr) (j : Nat) : (x.add j).block = x.block := by unfold Addr.add; split <;> rfl
theorem add_at (g o j : Nat) : (⟨g, o, none⟩ : Addr).add j = ⟨g, o + j, none⟩ := by unfold Addr.add; split <;> simp_all
theorem ints_at {l : List Nat} {j : Nat} {u : Value} (h : (ints l)[j]? = some u) : ∃ y, l[j]? = some y ∧ Value.int .i64 (y : Int) = u := by
  simp only [ints, List.getElem?_map, Option.map_eq_some_iff] at h
  exact h
theorem below_first {W w1 : World} (h : W.drew.grownBy w1 (Value.slice none 0 0).ownBlock) : Below W.heap.size W w1 :=
  ⟨h.os, h.tape, h.output, h.size, fun k hk => h.block k hk (by simp [Value.ownBlock])⟩
theorem below_more {W w1 w2 : World} {e s n : Nat} {v : Value} {xs : List Value} (hb : Below W.heap.size W w1) (hown : w1.ownsRow W.heap.size e s v n xs) (h : w1.grownBy w2 v.ownBlock) : Below W.heap.size W w2 :=
  hb.grown h hb.size (fun k hk => (hown.lt k hk).1)

theorem below_draw {w W w2 : World} {pb x : Nat} {u : Value} (hW : (w.setCell ⟨pb, x, none⟩ u).drew = W) (hb : Below W.heap.size W w2) : Below (w.setCell ⟨pb, x, none⟩ u).heap.size (w.setCell ⟨pb, x, none⟩ u) w2 := by
  subst hW; exact ⟨hb.os, hb.tape, hb.output, hb.size, hb.block⟩
theorem row_draw {w W w2 : World} {pb x m : Nat} {u v : Value} {xs : List Value} (hW : (w.setCell ⟨pb, x, none⟩ u).drew = W) (h : w2.ownsRow W.heap.size 3 1 v m xs) : w2.ownsRow (w.setCell ⟨pb, x, none⟩ u).heap.size 3 1 v m xs := by
  subst hW; exact h

section
variable {w w' : World} {n a pb pc kb kc : Nat} {T : Gr} {K : Nat → Value}

set_option maxRecDepth 100000 in
set_option maxHeartbeats 1600000 in
theorem drop_c (h : GR w n a pb pc kb kc T K) (hlen : ∀ i, (T.kids i).length ≤ 1000) {p i x : Nat} (hp : p < n) (hx : (T.kids p)[i]? = some x) (hxn : x < n) :
    Calls Try.prog 20 #[.pointer (some ⟨a, 0, none⟩), .int .i64 p, .int .i64 i] w (GPost w n a pb pc kb kc (T.drop p i)) := by
  obtain ⟨i3, hi, hz0, hz1, hz2⟩ := info_parts Try.info3
  have hil : i < (T.kids p).length := (List.getElem?_eq_some_iff.1 hx).1
  have hl := hlen p
  have c0 := h.c0
  have c1 := h.c1
  have ck := h.kid_at hp
  have cp := h.par_at hxn
  have zp := h.par.frozenAt x
  obtain ⟨g, ao, cap, hv, hcap, hs⟩ := own_shape (h.row p hp)
  obtain ⟨rfl, hg, -, hcell⟩ := hs (by omega)
  rw [hv] at ck
  have cx : w.cell? ⟨g, i, none⟩ = some (.int .i64 (x : Int)) := by rw [hcell i (by omega)]; simp [ints, hx]
  obtain ⟨len, hlen'⟩ : ∃ len, (T.kids p).length = len := ⟨_, rfl⟩
  rw [hlen'] at ck hil hl
  have HL := Lib.hid hlen'
  have hp0 : (0 : Int) ≤ (p : Int) := Int.natCast_nonneg _
  have hp1 : (p : Int) < (n : Int) := by omega
  have hi0 : (0 : Int) ≤ (i : Int) := Int.natCast_nonneg _
  have hi1 : (i : Int) < (len : Int) := by omega
  have hx0 : (0 : Int) ≤ (x : Int) := Int.natCast_nonneg _
  have hx1 : (x : Int) < (n : Int) := by omega
  have hst : ∀ b o u v, b ≠ pb → w.cell? ⟨b, o, none⟩ = some u → (w.setCell ⟨pb, x, none⟩ v).cell? ⟨b, o, none⟩ = some u := fun b o u v hb hc => by
    rw [World.cell?_of_block (w := w) (Below.heap_setCell _ _ _ _ hb)]; exact hc
  have hgpb : g ≠ pb := fun e => h.apart p hp (by rw [hv, e]; rfl)
  have d0 := hst a 0 _ (.int .i64 (-1)) h.a_pb c0
  have d1 := hst a 1 _ (.int .i64 (-1)) h.a_pb c1
  have d2 := hst kb p _ (.int .i64 (-1)) (Ne.symm h.pb_kb) ck
  have d3 := hst g i _ (.int .i64 (-1)) hgpb cx
  have hks : ∀ (j y : Nat), (T.kids p)[j]? = some y → w.cell? ⟨g, j, none⟩ = some (.int .i64 (y : Int)) := fun j y hy => by
    rw [hcell j (by have := (List.getElem?_eq_some_iff.1 hy).1; omega)]; simp [ints, hy]
  have HKS := Lib.hid hks
  have HGP := Lib.hid hgpb
  have H := Lib.hid h
  have HX := Lib.hid hx
  have HV := Lib.hid hv
  clear hks
  clear h hlen hst hs hcell hv hlen' hx hgpb
  go_enter Try.func20, Try.ntmps20
  go_wp2_with fail
  go_region_held3 (fun w' => w'.cell? ⟨a, 0, none⟩ = some (.slice (some ⟨pb, 0, none⟩) n pc) ∧ w'.cell? ⟨a, 1, none⟩ = some (.slice (some ⟨kb, 0, none⟩) n kc) ∧
      w'.cell? ⟨kb, p, none⟩ = some (.slice (some ⟨g, 0, none⟩) len cap) ∧ w'.cell? ⟨g, i, none⟩ = some (.int .i64 (x : Int))) (first | exact ⟨d0, d1, d2, d3⟩ | go_keep) (fail)
  go_wp2_with fail
  obtain ⟨W, hW⟩ : ∃ W, (w.setCell ⟨pb, x, none⟩ (.int .i64 (-1))).drew = W := ⟨_, rfl⟩
  rw [hW]
  have HW := Lib.hid hW
  have hst2 : ∀ b o u, b ≠ pb → w.cell? ⟨b, o, none⟩ = some u → W.cell? ⟨b, o, none⟩ = some u := fun b o u hb hc => by
    rw [← hW]
    show (w.setCell ⟨pb, x, none⟩ (.int .i64 (-1))).cell? ⟨b, o, none⟩ = some u
    rw [World.cell?_of_block (w := w) (Below.heap_setCell _ _ _ _ hb)]; exact hc
  have c1' := hst2 a 1 _ H.out.a_pb c1
  have ck' := hst2 kb p _ (Ne.symm H.out.pb_kb) ck
  clear hW hst2 c0 c1 ck cp zp cx d0 d1 d2 d3
  obtain ⟨B, hB⟩ : ∃ B, W.heap.size = B := ⟨_, rfl⟩
  have hsz : W.heap.size = w.heap.size := by rw [← HW.out]; simp [World.drew, World.setCell]
  have hkw : ∀ (j y : Nat), (T.kids p)[j]? = some y → W.cell? ⟨g, j, none⟩ = some (.int .i64 (y : Int)) := fun j y hy => by
    rw [← HW.out]
    show (w.setCell ⟨pb, x, none⟩ (.int .i64 (-1))).cell? ⟨g, j, none⟩ = _
    rw [World.cell?_of_block (w := w) (Below.heap_setCell _ _ _ _ HGP.out)]; exact HKS.out j y hy
  have hcell1 : ∀ j u, (ints ((T.kids p).take i))[j]? = some u → W.drew.cell? ((⟨g, 0, none⟩ : Addr).add j) = some u := fun j u hu => by
    obtain ⟨y, hy, rfl⟩ := ints_at hu
    rw [add_at, Nat.zero_add]
    exact hkw j y (by rw [List.getElem?_take] at hy; split at hy <;> simp_all)
  have hall : ∀ l : List Nat, ∀ u ∈ ints l, u.oneCell' = true := fun l u hu => by
    simp only [ints, List.mem_map] at hu; obtain ⟨y, -, rfl⟩ := hu; rfl
  have hlt1 : (ints ((T.kids p).take i)).length = i * 1 := by simp [ints]; rw [HL.out]; omega
  have hlt2 : (ints ((T.kids p).drop (i + 1))).length = (len - (i + 1)) * 1 := by simp [ints]; rw [HL.out]
  have HC1 := Lib.hid hcell1
  have HA := Lib.hid hall
  have HL1 := Lib.hid hlt1
  have HL2 := Lib.hid hlt2
  have hgl : g < W.heap.size := by omega
  have hal : a < W.heap.size := by have := H.out.a_lt; omega
  have hkl : kb < W.heap.size := by have := H.out.kb_lt; omega
  have zk : W.frozen? ⟨kb, p, none⟩ = false := by
    rw [← HW.out]
    show (w.setCell ⟨pb, x, none⟩ (.int .i64 (-1))).frozen? ⟨kb, p, none⟩ = false
    rw [World.frozen?_of_block (w := w) (Below.heap_setCell _ _ _ _ (Ne.symm H.out.pb_kb))]; exact H.out.kid.frozenAt p
  have HB := Lib.hid hB
  have i2 : (i : Int) + 1 ≤ (len : Int) := by omega
  have i3' : (len : Int) ≤ (cap : Int) := by have := HL.out; omega
  have hlc : len ≤ cap := by have := HL.out; omega
  have hic : i ≤ cap := by omega
  have hil2 : i + 1 ≤ len := by omega
  have hw1 : IntKind.i64.wrap ((i : Int) + 1) = (i : Int) + 1 := IntWalk.i64_in _ (by omega)
  have h01 : (0 : Int) ≤ (i : Int) + 1 := by omega
  have htn : ((i : Int) + 1).toNat = i + 1 := by omega
  clear hcell1 hall hlt1 hlt2 hB
  obtain ⟨A, hA⟩ : ∃ A : Addr, (if cap = i + 1 then some (⟨g, 0, none⟩ : Addr) else some ⟨g, i + 1, none⟩) = some A := by
    by_cases hcp : cap = i + 1
    · exact ⟨_, if_pos hcp⟩
    · exact ⟨_, if_neg hcp⟩
  have hn2 : ∀ w1, Below W.heap.size W w1 → ∀ j u, (ints ((T.kids p).drop (i + 1)))[j]? = some u → w1.cell? (A.add j) = some u := fun w1 hb j u hu => by
    obtain ⟨y, hy, rfl⟩ := ints_at hu
    rw [List.getElem?_drop] at hy
    have hjl := (List.getElem?_eq_some_iff.1 hy).1
    have hlc' := HL.out
    rw [if_neg (by omega)] at hA
    obtain rfl : _ = A := Option.some.inj hA
    rw [add_at, hb.cell (p := ⟨g, i + 1 + j, none⟩) hgl]
    exact hkw _ y hy
  have HN2 := Lib.hid hn2
  clear hn2 hkw hsz
  refine wp_region_last (fun w' => w'.cell? ⟨a, 1, none⟩ = some (.slice (some ⟨kb, 0, none⟩) n kc) ∧ w'.cell? ⟨kb, p, none⟩ = some (.slice (some ⟨g, 0, none⟩) len cap)) 27 (by kernel_rfl) ?_
  have hS : W.drew.cell? ⟨a, 1, none⟩ = some (.slice (some ⟨kb, 0, none⟩) n kc) ∧ W.drew.cell? ⟨kb, p, none⟩ = some (.slice (some ⟨g, 0, none⟩) len cap) := ⟨c1', ck'⟩
  refine wpAnyL_take (i := 0) (v := ?v0) 21 rfl rfl (by kernel_rfl) (by kernel_rfl) (by kernel_rfl) (by kernel_rfl) (fun _ _ _ h => h) (by rfl) ?h0 hS ?r0
  case h0 => (intro w' hSw; obtain ⟨s1, s2⟩ := hSw; go_simp <;> with_reducible rfl)
  simp only [List.setIfInBounds_toArray, List.set_cons_zero, List.set_cons_succ]
  refine wpAnyL_take (i := 1) (v := ?v1) 22 rfl rfl (by kernel_rfl) (by kernel_rfl) (by kernel_rfl) (by kernel_rfl) (fun _ _ _ h => h) (by rfl) ?h1 hS ?r1
  case h1 => (intro w' hSw; obtain ⟨s1, s2⟩ := hSw; go_simp <;> with_reducible rfl)
  simp only [List.setIfInBounds_toArray, List.set_cons_zero, List.set_cons_succ]
  refine wpAnyL_take (i := 2) (v := ?v2) 23 rfl rfl (by kernel_rfl) (by kernel_rfl) (by kernel_rfl) (by kernel_rfl) (fun _ _ _ h => h) (by rfl) ?h2 hS ?r2
  case h2 => (intro w' hSw; obtain ⟨s1, s2⟩ := hSw; go_simp <;> with_reducible rfl)
  simp only [List.setIfInBounds_toArray, List.set_cons_zero, List.set_cons_succ]
  refine wpAnyL_take (i := 3) (v := ?v3) 24 rfl rfl (by kernel_rfl) (by kernel_rfl) (by kernel_rfl) (by kernel_rfl) (fun _ _ _ h => h) (by rfl) ?h3 hS ?r3
  case h3 => (intro w' hSw; obtain ⟨s1, s2⟩ := hSw; go_simp <;> with_reducible rfl)
  simp only [List.setIfInBounds_toArray, List.set_cons_zero, List.set_cons_succ]
  refine wpAnyL_take (i := 4) (v := ?v4) 25 rfl rfl (by kernel_rfl) (by kernel_rfl) (by kernel_rfl) (by kernel_rfl) (fun _ _ _ h => h) (by rfl) ?h4 hS ?r4
  case h4 => (intro w' hSw; obtain ⟨s1, s2⟩ := hSw; go_simp <;> with_reducible rfl)
  simp only [List.setIfInBounds_toArray, List.set_cons_zero, List.set_cons_succ]
  refine wpAnyL_take (i := 5) (v := ?v5) 26 rfl rfl (by kernel_rfl) (by kernel_rfl) (by kernel_rfl) (by kernel_rfl) (fun _ _ _ h => h) (by rfl) ?h5 hS ?r5
  case h5 => (intro w' hSw; obtain ⟨s1, s2⟩ := hSw; go_simp <;> with_reducible rfl)
  simp only [List.setIfInBounds_toArray, List.set_cons_zero, List.set_cons_succ]
  refine wpAnyL_take (i := 6) (v := ?v6) 27 rfl rfl (by kernel_rfl) (by kernel_rfl) (by kernel_rfl) (by kernel_rfl) (fun _ _ _ h => h) (by rfl) ?h6 hS ?r6
  case h6 => (intro w' hSw; obtain ⟨s1, s2⟩ := hSw; go_simp <;> with_reducible rfl)
  simp only [List.setIfInBounds_toArray, List.set_cons_zero, List.set_cons_succ]
  refine wpAnyL_take (i := 7) (v := ?v7) 28 rfl rfl (by kernel_rfl) (by kernel_rfl) (by kernel_rfl) (by kernel_rfl) (fun _ _ _ h => h) (by rfl) ?h7 hS ?r7
  case h7 => (intro w' hSw; obtain ⟨s1, s2⟩ := hSw; go_simp <;> with_reducible rfl)
  simp only [List.setIfInBounds_toArray, List.set_cons_zero, List.set_cons_succ]
  refine wpAnyL_take (i := 8) (v := ?v8) 29 rfl rfl (by kernel_rfl) (by kernel_rfl) (by kernel_rfl) (by kernel_rfl) (fun _ _ _ h => h) (by rfl) ?h8 hS ?r8
  case h8 => (intro w' hSw; obtain ⟨s1, s2⟩ := hSw; go_simp <;> with_reducible rfl)
  simp only [List.setIfInBounds_toArray, List.set_cons_zero, List.set_cons_succ]
  refine wpAnyL_take (i := 9) (v := ?v9) 30 rfl rfl (by kernel_rfl) (by kernel_rfl) (by kernel_rfl) (by kernel_rfl) (fun _ _ _ h => h) (by rfl) ?h9 hS ?r9
  case h9 => (intro w' hSw; obtain ⟨s1, s2⟩ := hSw; go_simp <;> with_reducible rfl)
  simp only [List.setIfInBounds_toArray, List.set_cons_zero, List.set_cons_succ]
  refine wpAnyL_take (i := 10) (v := ?v10) 31 rfl rfl (by kernel_rfl) (by kernel_rfl) (by kernel_rfl) (by kernel_rfl) (fun _ _ _ h => h) (by rfl) ?h10 hS ?r10
  case h10 => (intro w' hSw; obtain ⟨s1, s2⟩ := hSw; go_simp <;> with_reducible rfl)
  simp only [List.setIfInBounds_toArray, List.set_cons_zero, List.set_cons_succ]
  refine wpAnyL_take (i := 11) (v := ?v11) 32 rfl rfl (by kernel_rfl) (by kernel_rfl) (by kernel_rfl) (by kernel_rfl) (fun _ _ _ h => h) (by rfl) ?h11 hS ?r11
  case h11 => (intro w' hSw; obtain ⟨s1, s2⟩ := hSw; go_simp <;> with_reducible rfl)
  simp only [List.setIfInBounds_toArray, List.set_cons_zero, List.set_cons_succ]
  refine wpAnyL_take (i := 12) (v := ?v12) 33 rfl rfl (by kernel_rfl) (by kernel_rfl) (by kernel_rfl) (by kernel_rfl) (fun _ _ _ h => h) (by rfl) ?h12 hS ?r12
  case h12 => (intro w' hSw; obtain ⟨s1, s2⟩ := hSw; go_simp <;> with_reducible rfl)
  simp only [List.setIfInBounds_toArray, List.set_cons_zero, List.set_cons_succ]
  refine wpAnyL_take (i := 13) (v := ?v13) 34 rfl rfl (by kernel_rfl) (by kernel_rfl) (by kernel_rfl) (by kernel_rfl) (fun _ _ _ h => h) (by rfl) ?h13 hS ?r13
  case h13 => (intro w' hSw; obtain ⟨s1, s2⟩ := hSw; go_simp <;> with_reducible rfl)
  simp only [List.setIfInBounds_toArray, List.set_cons_zero, List.set_cons_succ]
  refine wpAnyL_take (i := 15) (v := ?v15) 36 rfl rfl (by kernel_rfl) (by kernel_rfl) (by kernel_rfl) (by kernel_rfl) (fun _ _ _ h => h) (by rfl) ?h15 hS ?r15
  case h15 => (intro w' hSw; obtain ⟨s1, s2⟩ := hSw; go_simp <;> with_reducible rfl)
  simp only [List.setIfInBounds_toArray, List.set_cons_zero, List.set_cons_succ]
  refine wpAnyL_take (i := 16) (v := ?v16) 37 rfl rfl (by kernel_rfl) (by kernel_rfl) (by kernel_rfl) (by kernel_rfl) (fun _ _ _ h => h) (by rfl) ?h16 hS ?r16
  case h16 => (intro w' hSw; obtain ⟨s1, s2⟩ := hSw; go_simp <;> with_reducible rfl)
  simp only [List.setIfInBounds_toArray, List.set_cons_zero, List.set_cons_succ]
  refine wpAnyL_take (i := 17) (v := ?v17) 38 rfl rfl (by kernel_rfl) (by kernel_rfl) (by kernel_rfl) (by kernel_rfl) (fun _ _ _ h => h) (by rfl) ?h17 hS ?r17
  case h17 => (intro w' hSw; obtain ⟨s1, s2⟩ := hSw; go_simp <;> with_reducible rfl)
  simp only [List.setIfInBounds_toArray, List.set_cons_zero, List.set_cons_succ]
  refine wpAnyL_take (i := 18) (v := ?v18) 39 rfl rfl (by kernel_rfl) (by kernel_rfl) (by kernel_rfl) (by kernel_rfl) (fun _ _ _ h => h) (by rfl) ?h18 hS ?r18
  case h18 => (intro w' hSw; obtain ⟨s1, s2⟩ := hSw; go_simp <;> with_reducible rfl)
  simp only [List.setIfInBounds_toArray, List.set_cons_zero, List.set_cons_succ]
  refine wpAnyL_take (i := 19) (v := ?v19) 40 rfl rfl (by kernel_rfl) (by kernel_rfl) (by kernel_rfl) (by kernel_rfl) (fun _ _ _ h => h) (by rfl) ?h19 hS ?r19
  case h19 => (intro w' hSw; obtain ⟨s1, s2⟩ := hSw; go_simp <;> with_reducible rfl)
  simp only [List.setIfInBounds_toArray, List.set_cons_zero, List.set_cons_succ]
  refine wpAnyL_take (i := 20) (v := ?v20) 41 rfl rfl (by kernel_rfl) (by kernel_rfl) (by kernel_rfl) (by kernel_rfl) (fun _ _ _ h => h) (by rfl) ?h20 hS ?r20
  case h20 => (intro w' hSw; obtain ⟨s1, s2⟩ := hSw; go_simp <;> with_reducible rfl)
  simp only [List.setIfInBounds_toArray, List.set_cons_zero, List.set_cons_succ]
  refine wpAnyL_take (i := 21) (v := ?v21) 42 rfl rfl (by kernel_rfl) (by kernel_rfl) (by kernel_rfl) (by kernel_rfl) (fun _ _ _ h => h) (by rfl) ?h21 hS ?r21
  case h21 => (intro w' hSw; obtain ⟨s1, s2⟩ := hSw; go_simp <;> with_reducible rfl)
  simp only [List.setIfInBounds_toArray, List.set_cons_zero, List.set_cons_succ]
  refine wpAnyL_take (i := 22) (v := ?v22) 43 rfl rfl (by kernel_rfl) (by kernel_rfl) (by kernel_rfl) (by kernel_rfl) (fun _ _ _ h => h) (by rfl) ?h22 hS ?r22
  case h22 => (intro w' hSw; obtain ⟨s1, s2⟩ := hSw; go_simp <;> with_reducible rfl)
  simp only [List.setIfInBounds_toArray, List.set_cons_zero, List.set_cons_succ]
  refine wpAnyL_take (i := 23) (v := ?v23) 44 rfl rfl (by kernel_rfl) (by kernel_rfl) (by kernel_rfl) (by kernel_rfl) (fun _ _ _ h => h) (by rfl) ?h23 hS ?r23
  case h23 => (intro w' hSw; obtain ⟨s1, s2⟩ := hSw; go_simp <;> with_reducible rfl)
  simp only [List.setIfInBounds_toArray, List.set_cons_zero, List.set_cons_succ]
  refine wpAnyL_take (i := 24) (v := ?v24) 45 rfl rfl (by kernel_rfl) (by kernel_rfl) (by kernel_rfl) (by kernel_rfl) (fun _ _ _ h => h) (by rfl) ?h24 hS ?r24
  case h24 => (intro w' hSw; obtain ⟨s1, s2⟩ := hSw; go_simp <;> with_reducible rfl)
  simp only [List.setIfInBounds_toArray, List.set_cons_zero, List.set_cons_succ]
  refine wpAnyL_oneD (i := 14) 35 (by kernel_rfl) rfl rfl (fun K1 hK1 => ?r14)
  refine step_append_at _ (by rfl) (.const (.slice none 0 0)) (.tmp 34) 38 (by rfl) W.heap.size 3 i3 (.int .i64 0) 1 8 Try.underlying38 hi hz0 hz1 hz2 rfl (by decide) (.slice none 0 0) 0 [] (by rfl) (World.ownsRow_nil _ _ _ _) ⟨g, 0, none⟩ i cap (ints ((T.kids p).take i)) (by rfl) HL1.out HC1.out (HA.out _) (by unfold maxLen; omega) (by omega) (Nat.le_refl _) ?q14
  intro v1 w1 hown1 hgrow1
  have hb1 := below_first hgrow1
  have k1 := (hb1.cell (p := ⟨a, 1, none⟩) hal).trans c1'
  have k2 := (hb1.cell (p := ⟨kb, p, none⟩) hkl).trans ck'
  have hb1s := hb1.size
  refine hK1.out _ _ (fun _ => ⟨k1, k2⟩) ?p14
  clear hK1 K1 hS
  simp only [List.setIfInBounds_toArray, List.set_cons_zero, List.set_cons_succ]
  refine wpAnyL_oneD (i := 25) 46 (by kernel_rfl) rfl rfl (fun K1 hK1 => ?r25)
  refine step_append_at _ (by rfl) (.tmp 35) (.tmp 45) 38 (by rfl) W.heap.size 3 i3 (.int .i64 0) 1 8 Try.underlying38 hi hz0 hz1 hz2 rfl (by decide) _ _ _ (by rfl) hown1 A (len - (i + 1)) (cap - (i + 1)) (ints ((T.kids p).drop (i + 1))) (by rfl) HL2.out (HN2.out _ hb1) (HA.out _) (by unfold maxLen; omega) (by omega) hb1s ?q25
  intro v2 w2 hown2 hgrow2
  obtain ⟨g2, ao2, cap2, rfl, hcap2, -⟩ := own_shape hown2
  have hb2 := below_more hb1 hown1 hgrow2
  have k3 := (hb2.cell (p := ⟨kb, p, none⟩) hkl).trans ck'
  have z3 := (hb2.frozen (p := ⟨kb, p, none⟩) hkl).trans zk
  have k4 := (hb2.cell (p := ⟨a, 1, none⟩) hal).trans c1'
  have hS : w2.cell? ⟨a, 1, none⟩ = some (.slice (some ⟨kb, 0, none⟩) n kc) ∧ w2.cell? ⟨kb, p, none⟩ = some (.slice (some ⟨g, 0, none⟩) len cap) := ⟨k4, k3⟩
  refine hK1.out _ _ (fun _ => hS) ?p25
  clear hK1 K1 k1 k2
  simp only [List.setIfInBounds_toArray, List.set_cons_zero, List.set_cons_succ]
  refine wpAnyL_take (i := 26) (v := ?v26) 47 rfl rfl (by kernel_rfl) (by kernel_rfl) (by kernel_rfl) (by kernel_rfl) (fun _ _ _ h => h) (by rfl) ?h26 hS ?r26
  case h26 => (intro w' hSw; obtain ⟨s1, s2⟩ := hSw; go_simp <;> with_reducible rfl)
  simp only [List.setIfInBounds_toArray, List.set_cons_zero, List.set_cons_succ]
  refine wpAnyL_one (i := 27) (by kernel_rfl) rfl (fun K1 hK1 => ?r27)
  go_simp
  refine hK1.out _ _ (fun h => absurd rfl h) ?p27
  clear hK1 K1
  refine wpAnyL_done (by kernel_rfl) ?_ _
  go_wp2_with fail
  go_end0
  have hfin := grove_set H.out (p := p) (x := x) (o := none) (L := (T.kids p).take i ++ (T.kids p).drop (i + 1)) (w2 := w2) (v := .slice ao2 (i + (len - (i + 1))) cap2) (below_draw HW.out hb2) (row_draw HW.out (by
    have e1 : ((T.kids p).take i ++ (T.kids p).drop (i + 1)).length = i + (len - (i + 1)) := by rw [← HL.out] at hil; simp; rw [HL.out]; omega
    rw [e1]
    have e2 : ints ((T.kids p).take i ++ (T.kids p).drop (i + 1)) = ints ((T.kids p).take i) ++ ints ((T.kids p).drop (i + 1)) := by simp [ints]
    rw [e2]
    simpa using hown2))
  have e3 : T.drop p i = ⟨fun y => if y = x then none else T.par y, fun q => if q = p then (T.kids p).take i ++ (T.kids p).drop (i + 1) else T.kids q⟩ := by
    unfold Gr.drop
    rw [HX.out]
    congr 1
    funext y
    simp [eq_comm]
  rw [e3]
  exact hfin
end
end Go.Proofs.Ytlggpodblabmdaa
