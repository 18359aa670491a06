/-
  The walk of laws.FnUndone; a lemma text, no statement of the seat.
-/
import Derived.Test.YtlggpodblabmdaaGrown
import Derived.Test.YtlggpodblabmdaaUndoP
import Derived.Test.YtlggpodblabmdaaNodesX
import Derived.Deep.Cut
import Derived.Deep.CutRange
namespace Go.Proofs.Ytlggpodblabmdaa
open Go.RowKit

/-- A change that puts the node n among the children of i. -/
structure Puts (n : Nat) (T : Gr) (i : Nat) (c : Ch) : Prop where
  kind : c.kind = 0 ∨ c.kind = 4 ∨ c.kind = 5
  inn : c.inn = i
  what : c.what = n
  valid : Valid (n + 1) T c

/-- The box of the change that puts. -/
def PutBox (n : Nat) (T : Gr) (i b : Nat) (w0 w : World) : Prop :=
  ∃ c : Ch, Puts n T i c ∧ w.heap[b]? = some (.cells #[.int .i64 c.kind, .int .i64 c.inn, .int .i64 c.att, .int .i64 c.what] 29 (0, 0)) ∧ Kept (fun k => k = b) w0 w

theorem row_ne {w : World} {b e s m b' g : Nat} {t : TypeId} {v : Value} {xs : List Value} {cs : Array Value} {z : Nat × Nat} (h : w.ownsRow b e s v m xs) (hb : w.heap[b']? = some (.cells cs t z)) (he : e ≠ t) (hg : v.ownBlock = some g) : g ≠ b' := fun x => by
  obtain ⟨_, ⟨rfl, _⟩ | ⟨g1, cap, cur, rfl, _, hh, _⟩⟩ := h
  · cases hg
  · obtain rfl : g1 = g := by simpa [Value.ownBlock] using hg
    rw [x, hb] at hh; simp at hh; exact he hh.2.1.symm

section
variable {P : Program} (w : World)
/-- An append of an owned row (nil or not) at a step of a region that draws. -/
theorem step_append_row {ops : Array Oper} {o : Oper} {a : Act} {K : Act → World → Prop} {Q : Exit → Act → World → Prop} {E : Prop} (hgd : o.guard = none) (s x : Operand) (t : TypeId)
    (ho : o.op = .call { callee := .builtin .append, args := #[s, x], argTypes := #[t, t] })
    (base : Nat) (e : TypeId) (i : TypeInfo) (z : Value) (size bytes : Nat) (ht : P.underlying t = some (.slice e)) (hi : P.info? e = some i) (hz : i.zero = some z)
    (hsize : i.size = size) (hby : i.bytes = bytes) (hzs : z.cells.size = size) (hsz : 0 < size)
    (v : Value) (n : Nat) (xs : List Value) (hs : a.eval s = v) (hown : w.ownsRow base e size v n xs)
    {xv : Value} {m b' e' : Nat} {news : List Value} (hrow : w.ownsRow b' e' size xv m news) (hx : a.eval x = xv) (h1 : ∀ u ∈ news, u.oneCell' = true)
    (h63 : n + m ≤ maxLen) (hbytes : (n + m) * bytes ≤ 140737488355328) (hbase : base ≤ w.heap.size)
    (h : ∀ v' w', w'.ownsRow base e size v' (n + m) (xs ++ news) → w.grownBy w' v.ownBlock → K (a.put o.dst v') w') :
    if Region.wanted o (yielded ops a.tmps) = true then Oper.wp P o a w K Q else E := by
  have h0 := hrow
  obtain ⟨hl, ⟨rfl, rfl⟩ | ⟨g, cap, cur, rfl, _, hg, _⟩⟩ := h0
  · have hn : news = [] := List.length_eq_zero_iff.1 (by simpa using hl)
    subst hn
    refine step_append_nil (P := P) w hgd s x t ho base e i size ht hi v n xs hs hown hx ?_
    exact h v w (by simpa using hown) ⟨rfl, rfl, rfl, Nat.le_refl _, fun _ _ _ => rfl⟩
  · exact step_append_at w hgd s x t ho base e i z size bytes ht hi hz hsize hby hzs hsz v n xs hs hown ⟨g, 0, none⟩ m cap news hx hl (fun j u hu => by
      rw [add_at, Nat.zero_add, hrow.cellAt j (by have := (List.getElem?_eq_some_iff.1 hu).1; omega)]; exact hu) h1 h63 hbytes hbase h
end

theorem news_new (w : World) (l : List Value) : ∀ j u, l[j]? = some u → (w.alloc (.cells l.toArray 29 (0, 0))).cell? ((⟨w.heap.size, 0, none⟩ : Addr).add j) = some u :=
  fun j u hu => World.news_of_block (heap_alloc_new w (.cells l.toArray 29 (0, 0))) j u (by simpa using hu)

theorem flat_one (cs : List Ch) : ∀ u ∈ cs.flatMap chCells, u.oneCell' = true := fun u hu => by
  obtain ⟨c, -, hu⟩ := List.mem_flatMap.1 hu
  simp only [chCells, List.mem_cons, List.not_mem_nil, or_false] at hu
  rcases hu with rfl | rfl | rfl | rfl <;> rfl

theorem flat_len (cs : List Ch) : (cs.flatMap chCells).length = cs.length * 4 := by
  induction cs with
  | nil => rfl
  | cons c cs ih => rw [List.flatMap_cons, List.length_append, ih]; simp [chCells]; omega

theorem GrS.keptBy {S : Nat → Prop} {W w w' : World} {n a pb pc kb kc : Nat} {T : Gr} {cs : List Ch} {K : Nat → Value} {v : Value} (h : GrS W n a pb pc kb kc T cs K v w) (k : Kept S w w') (ha : ¬ S a) (hp : ¬ S pb) (hk : ¬ S kb)
    (hr : ∀ i, i < n → ∀ g, (K i).ownBlock = some g → ¬ S g) (hv : ∀ g, v.ownBlock = some g → ¬ S g) (hW : ∀ q, q < W.heap.size → ¬ S q) : GrS W n a pb pc kb kc T cs K v w' :=
  ⟨h.gr.kept k ha hp hk hr, k.row h.row hv, h.below.trans (k.below h.below.size hW), h.base⟩

/-- A shorter slice of an owned row. -/
theorem row_take {w : World} {b e s g m m' cap : Nat} {xs : List Value} (h : w.ownsRow b e s (.slice (some ⟨g, 0, none⟩) m cap) m xs) (hm : m' ≤ m) : w.ownsRow b e s (.slice (some ⟨g, 0, none⟩) m' cap) m' (xs.take (m' * s)) := by
  have hms : m' * s ≤ m * s := Nat.mul_le_mul_right s hm
  obtain ⟨hl, ⟨hv, _⟩ | ⟨g1, cap1, cur, hv, hb, hg, hc, hc2, hsz, ht⟩⟩ := h
  · cases hv
  · simp only [Value.slice.injEq, Option.some.injEq, Addr.mk.injEq, and_true, true_and] at hv
    obtain ⟨rfl, rfl⟩ := hv
    refine ⟨by rw [List.length_take, hl]; omega, .inr ⟨g, cap, cur, rfl, hb, hg, by omega, hc2, hsz, ?_⟩⟩
    rw [← ht, List.take_take, Nat.min_eq_left hms]

theorem lk_take (n : Nat) (G : Nat → Nd) : ((List.range (n + 1)).flatMap fun i => lkCells (G i)).take (n * 7) = (List.range n).flatMap fun i => lkCells (G i) := by
  have hl : ∀ m, ((List.range m).flatMap fun i => lkCells (G i)).length = m * 7 := fun m => by
    induction m with
    | zero => rfl
    | succ m ih => rw [List.range_succ, List.flatMap_append, List.length_append, ih]; simp [lkCells]; omega
  rw [List.range_succ, List.flatMap_append, List.take_left' (hl n)]

/-- To put and to remove: the nodes hang as they hung. -/
theorem undone_runs {n : Nat} {cs : List Ch} {i kd t1 : Nat} (hv : Valids n Gr.new cs) (hp : Puts n (runs Gr.new cs) i ⟨kd, i, t1, n⟩) (hin : i < n) :
    runs Gr.new (cs ++ [⟨kd, i, t1, n⟩, ⟨1, i, 0, n⟩]) = runs Gr.new cs ∧ Valids (n + 1) Gr.new (cs ++ [⟨kd, i, t1, n⟩, ⟨1, i, 0, n⟩]) := by
  have hw := valids_wf n cs _ (wf_new n) hv
  have e : cs ++ [⟨kd, i, t1, n⟩, ⟨1, i, 0, n⟩] = (cs ++ [⟨kd, i, t1, n⟩]) ++ [⟨1, i, 0, n⟩] := by simp
  rw [e]
  refine ⟨?_, ?_⟩
  · rw [runs_snoc, runs_snoc]
    exact act_undone hw hp.kind (hw.none (Nat.le_refl n)) 0
  · refine valids_snoc _ _ _ _ (valids_snoc _ _ _ _ (Valids.up cs hv) hp.valid) ⟨by simp, by simp; omega, by simp, by simp, fun h => absurd h (by simp), fun h => absurd h (by simp)⟩

theorem set4_kept {w : World} {b : Nat} (k i t x : Int) : Kept (fun q => q = b) w (set4 w b k i t x) :=
  ((((Kept.refl (fun q => q = b) w).setCell (Or.inl rfl) _).setCell (Or.inl rfl) _).setCell (Or.inl rfl) _).setCell (Or.inl rfl) _

set_option maxRecDepth 100000 in
set_option maxHeartbeats 1600000 in
theorem undone_w (many : Int) (ao : Option Addr) (len cap : Nat) (i0 t0 k0 : Int) (W : World) (hin : Came W ao len) :
    Calls Try.prog 6 #[.int .i64 many, .slice ao len cap, .int .i64 i0, .int .i64 t0, .int .i64 k0] W fun e w' => e = .returned (.bool true) ∧ Below W.heap.size W w' := by
  by_cases hbig : 2147483647 < len
  · have hb : (2147483647 : Int) < (len : Int) := by omega
    clear hin
    go_enter Try.func6, Try.ntmps6
    go_wp2
    go_ret
    exact ⟨rfl, Below.refl _ _⟩
  · have hlen : len ≤ 2147483647 := by omega
    have hb : (len : Int) ≤ 2147483647 := by omega
    have c := grown_c W many ao len cap false hlen hin
    obtain ⟨n, hn⟩ : ∃ n, (many % 12).toNat + 1 = n := ⟨_, rfl⟩
    have hn12 : n ≤ 12 := by
      have := Int.emod_lt_of_pos many (b := 12) (by decide)
      omega
    have hn0 : 0 < n := by omega
    rw [hn] at c
    have hnat : ∀ z : Int, ∃ x : Nat, z % n = x ∧ x < n := fun z => by
      have h1 := Int.emod_nonneg z (b := (n : Int)) (by omega)
      have h2 := Int.emod_lt_of_pos z (b := (n : Int)) (by omega)
      exact ⟨(z % n).toNat, by omega, by omega⟩
    obtain ⟨i, hi, hin'⟩ := hnat i0
    obtain ⟨t, ht, htn⟩ := hnat t0
    have HI := Lib.hid hi
    have HT := Lib.hid ht
    clear hin hbig hn hnat hi ht
    go_enter Try.func6, Try.ntmps6
    go_wp2_with fail
    ((with_reducible refine c.mono ?_))
    rintro e w1 ⟨a, pb, pc, kb, kc, T, cs, K, v, rfl, hs, rfl, hv, hl, hac⟩
    have c0 := hs.gr.c0
    have hn1 : (n : Int) ≤ 12 := by omega
    have hn01 : (1 : Int) ≤ (n : Int) := by omega
    have HV := Lib.hid hv
    have H1 := Lib.hid hs
    have HWF := Lib.hid (valids_wf n cs _ (wf_new n) hv)
    clear hac c hv hs
    go_wp2_with fail
    ((with_reducible refine (place_c i0 n hn0 (by omega) w1).mono ?_))
    rintro e w' ⟨rfl, rfl⟩
    go_wp2_with fail
    ((with_reducible refine (place_c t0 n hn0 (by omega) w1).mono ?_))
    rintro e w' ⟨rfl, rfl⟩
    simp only [HI.out, HT.out]
    have c := changed_c n (by omega) cs v w1 (ownsRow_base H1.out.row (Nat.zero_le _)) (by omega) HV.out
    go_wp2_with fail
    ((with_reducible refine c.mono ?_))
    intro e w2 hl
    obtain ⟨v2, rfl, hr2, hb2⟩ := hl
    have HR2 := Lib.hid hr2
    have H2 := Lib.hid (H1.out.over hb2)
    clear c hr2 hb2 H1 c0
    have hi0' : (0 : Int) ≤ (i : Int) := Int.natCast_nonneg _
    have hi1' : (i : Int) < (n : Int) := by omega
    have ht0' : (0 : Int) ≤ (t : Int) := Int.natCast_nonneg _
    have ht1' : (t : Int) < (n : Int) := by omega
    go_upto_region 8 with (fail)
    obtain ⟨w3, hw3⟩ : ∃ w3, w2.alloc (.cells #[.int .i64 0, .int .i64 i, .int .i64 0, .int .i64 n] 29) = w3 := ⟨_, rfl⟩
    have H3 := Lib.hid (H2.out.alloc (.cells #[.int .i64 0, .int .i64 i, .int .i64 0, .int .i64 n] 29))
    have HR3 := Lib.hid (HR2.out.alloc (.cells #[.int .i64 0, .int .i64 i, .int .i64 0, .int .i64 n] 29))
    have HX3 := Lib.hid (heap_alloc_new w2 (.cells #[.int .i64 0, .int .i64 i, .int .i64 0, .int .i64 n] 29))
    obtain ⟨b15, hb15⟩ : ∃ b, w2.heap.size = b := ⟨_, rfl⟩
    have HBLT := Lib.hid (And.intro (fun k hk => (H2.out.row.lt k hk).2) (fun k hk => (HR2.out.lt k hk).2))
    rw [hw3] at H3 HR3 HX3 ⊢
    rw [hb15] at HX3 HBLT ⊢
    have HB15 := Lib.hid (And.intro H2.out.gr.pb_lt (And.intro H2.out.gr.kb_lt (And.intro H2.out.gr.a_lt (And.intro H2.out.below.size hb15))))
    clear hw3 H2 HR2 hb15
    have c0 := H3.out.gr.c0
    have c1 := H3.out.gr.c1
    have ck := H3.out.gr.kid_at hin'
    have cp := H3.out.gr.par_at htn
    obtain ⟨kg, ko, kcap, hkv, hkcap, hks⟩ := own_shape (H3.out.gr.row i hin')
    rw [hkv] at ck
    obtain ⟨m, hm⟩ : ∃ m, ((runs Gr.new cs).kids i).length = m := ⟨_, rfl⟩
    rw [hm] at ck hkcap hks hkv
    have HM := Lib.hid hm
    have HKS := Lib.hid (And.intro hkcap hks)
    have HKI := Lib.hid hkv
    clear hkv hkcap hks hm
    obtain ⟨o, ho⟩ : ∃ o, (runs Gr.new cs).par t = o := ⟨_, rfl⟩
    rw [ho] at cp
    obtain ⟨q, hq⟩ : ∃ q, pn o = q := ⟨_, rfl⟩
    rw [hq] at cp
    have HO := Lib.hid (And.intro ho hq)
    clear ho hq
    go_upto_if 59 with (fail)
    obtain ⟨b59, hb59⟩ : ∃ b59, (q == (i : Int)) = b59 := ⟨_, rfl⟩
    rw [hb59]
    have HB59 := Lib.hid hb59
    clear hb59
    go_cut [] from 60 to 77 (fun wx => PutBox n (runs Gr.new cs) i b15 w3 wx)
    case first =>
      by_cases ho : o = some i
      · have hqi : q = (i : Int) := by rw [← HO.out.2, ho]; rfl
        obtain rfl : b59 = true := by rw [← HB59.out, hqi]; simp
        have hpar : (runs Gr.new cs).par t = some i := by rw [HO.out.1, ho]
        have hmem := (HWF.out.mem i t).2 hpar
        have hlen0 : 0 < m := by rw [← HM.out]; exact List.length_pos_of_mem hmem
        obtain ⟨l, hl⟩ : ∃ l, ((runs Gr.new cs).kids i)[m - 1]? = some l := ⟨_, List.getElem?_eq_getElem (by rw [HM.out]; omega)⟩
        obtain ⟨rfl, hkg, -, hkc⟩ := HKS.out.2 hlen0
        have hkl := hkc (m - 1) (by omega)
        rw [show (ints ((runs Gr.new cs).kids i))[m - 1]? = some (.int .i64 (l : Int)) by simp [ints, hl]] at hkl
        have hkne : kg ≠ b15 := by
          exact row_ne (H3.out.gr.row i hin') HX3.out (by decide) (by rw [HKI.out]; rfl)
        have HL := Lib.hid (And.intro hpar hl)
        have hll : m ≤ n := by rw [← HM.out]; exact HWF.out.len i
        clear hpar hmem hl hkc ho hqi
        have f0 := block_cell HX3.out (o := 0) rfl
        have f1 := block_cell HX3.out (o := 1) rfl
        have f2 := block_cell HX3.out (o := 2) rfl
        have f3 := block_cell HX3.out (o := 3) rfl
        have z0 : ∀ o, w3.frozen? ⟨b15, o, none⟩ = false := fun o => by simp [World.frozen?, HX3.out]
        go_upto_region 11 with (fail)
        change Code.wp _ _ _ _ (set4 w3 b15 4 i t n)
        obtain ⟨w4, hw4⟩ : ∃ w4, set4 w3 b15 4 i t n = w4 := ⟨_, rfl⟩
        have HX4 := Lib.hid (set4_at HX3.out 4 i t n)
        have HK4 := Lib.hid (set4_kept (w := w3) (b := b15) 4 i t n)
        have hkl4 := set4_cell hkne hkl (k := 4) (i := i) (t := t) (x := n)
        rw [hw4] at HX4 HK4 hkl4 ⊢
        clear hw4 f0 f1 f2 f3 z0 hkl
        have f0 := block_cell HX4.out (o := 0) rfl
        have z0 : w4.frozen? ⟨b15, 0, none⟩ = false := by simp [World.frozen?, HX4.out]
        have HV4 := Lib.hid (show Puts n (runs Gr.new cs) i ⟨4, i, t, n⟩ from ⟨.inr (.inl rfl), rfl, rfl, ⟨by simp, by simp; omega, by simp; omega, by simp, fun _ => ⟨HL.out.1, by simp; omega⟩, fun h => absurd h (by simp)⟩⟩)
        have hm1 : (1 : Int) ≤ (m : Int) := by omega
        have hm2 : (m : Int) ≤ 12 := by omega
        have hm3 : ((m : Int) - 1).toNat = m - 1 := by omega
        have hl0 : (0 : Int) ≤ (l : Int) := Int.natCast_nonneg _
        by_cases hk2 : k0 % 2 = 1
        · by_cases hlt : l = t
          · subst hlt
            go_wp2_with fail
            refine (place_c k0 2 (by decide) (by decide) w4).mono ?_
            rintro e w' ⟨rfl, rfl⟩
            simp only [show (((2 : Nat) : Int)) = 2 from rfl, hk2]
            go_wp2_with fail
            go_meet
            case rel => exact ⟨_, HV4.out, HX4.out, HK4.out⟩
          · have hne : ((l : Int) != (t : Int)) = true := by simp; omega
            have HV5 := Lib.hid (show Puts n (runs Gr.new cs) i ⟨5, i, t, n⟩ from ⟨.inr (.inr rfl), rfl, rfl, ⟨by simp, by simp; omega, by simp; omega, by simp, fun _ => ⟨HL.out.1, by simp; omega⟩, fun _ => by
              obtain ⟨y, -, hy⟩ := last_ne HWF.out HL.out.1 (by rw [HM.out]; exact HL.out.2) hlt
              exact ⟨y, hy, by have := (HWF.out.lt i y ((HWF.out.mem i y).1 (nxt_mem _ _ _ hy))).2; simp; omega⟩⟩⟩)
            have HX5 := Lib.hid (heap_setCell_eq HX4.out 0 (.int .i64 5))
            have HK5 := Lib.hid (HK4.out.trans ((Kept.refl (fun q => q = b15) w4).setCell (p := ⟨b15, 0, none⟩) (Or.inl rfl) (.int .i64 5)))
            clear hlt
            go_wp2_with fail
            refine (place_c k0 2 (by decide) (by decide) w4).mono ?_
            rintro e w' ⟨rfl, rfl⟩
            simp only [show (((2 : Nat) : Int)) = 2 from rfl, hk2]
            go_wp2_with fail
            go_meet
            case rel => exact ⟨_, HV5.out, HX5.out, HK5.out⟩
        · have hk3 : (k0 % 2 == 1) = false := by simpa using hk2
          clear hk2
          go_wp2_with fail
          refine (place_c k0 2 (by decide) (by decide) w4).mono ?_
          rintro e w' ⟨rfl, rfl⟩
          simp only [show (((2 : Nat) : Int)) = 2 from rfl]
          go_wp2_with fail
          go_meet
          case rel => exact ⟨_, HV4.out, HX4.out, HK4.out⟩
      · obtain rfl : b59 = false := by rw [← HB59.out, ← HO.out.2]; exact pn_ne ho
        have HB := Lib.hid (show PutBox n (runs Gr.new cs) i b15 w3 w3 from ⟨⟨0, i, 0, n⟩, ⟨.inl rfl, rfl, rfl, ⟨by simp, by simp; omega, by simp, by simp, fun h => absurd h (by simp), fun h => absurd h (by simp)⟩⟩, HX3.out, Kept.refl _ _⟩)
        go_wp2_with fail
        go_meet
        case rel => exact HB.out
    case rest =>
      obtain ⟨w4, rfl⟩ : ∃ w4 : World, w4 = wc := ⟨_, rfl⟩
      obtain ⟨c, hp, hx, hk⟩ := hcut
      obtain ⟨kd, i1, t1, x1⟩ := c
      obtain rfl : i1 = i := hp.inn
      obtain rfl : x1 = n := hp.what
      have H4 := Lib.hid (H3.out.keptBy hk (by have := HB15.out; omega) (by have := HB15.out; omega) (by have := HB15.out; omega) (fun j hj g hg => row_ne (H3.out.gr.row j hj) HX3.out (by decide) hg)
        (fun g hg => by have := HBLT.out.1 g hg; omega) (fun q hq => by have := HB15.out; omega))
      have HR4 := Lib.hid (hk.row HR3.out (fun g hg => by have := HBLT.out.2 g hg; omega))
      have hun := undone_runs HV.out hp hin'
      have HUN := Lib.hid hun
      have hcsl : cs.length ≤ 2147483647 := by omega
      have hbx : ∀ w', Below w4.heap.size w4 w' → w'.cell? ⟨b15, 0, none⟩ = some (.int .i64 kd) ∧ w'.cell? ⟨b15, 1, none⟩ = some (.int .i64 i1) ∧ w'.cell? ⟨b15, 2, none⟩ = some (.int .i64 t1) ∧ w'.cell? ⟨b15, 3, none⟩ = some (.int .i64 x1) := fun w' hb => by
        have hx' : w'.heap[b15]? = some (.cells #[.int .i64 kd, .int .i64 i1, .int .i64 t1, .int .i64 x1] 29 (0, 0)) := by rw [hb.block _ (lt_of_heap hx)]; exact hx
        exact ⟨block_cell hx' rfl, block_cell hx' rfl, block_cell hx' rfl, block_cell hx' rfl⟩
      have HBX := Lib.hid hbx
      have HB0 := Lib.hid (show Below w4.heap.size w4 w4.drew from ⟨rfl, rfl, rfl, Nat.le_refl _, fun _ _ => rfl⟩)
      have HRW := Lib.hid (show ∀ w', Below w4.heap.size w4 w' → w'.ownsRow 0 29 4 v cs.length (cs.flatMap chCells) from fun w' hb => ownsRow_base ((Kept.of_below (S := fun _ => False) hb).row H4.out.row (fun _ _ => id)) (Nat.zero_le _))
      have HONE := Lib.hid (flat_one cs)
      have HCALL := Lib.hid (show ∀ v3 w3', Below w4.heap.size w4 w3' → w3'.ownsRow w4.heap.size 29 4 v3 (0 + cs.length + 2) ([] ++ cs.flatMap chCells ++ [.int .i64 kd, .int .i64 i1, .int .i64 t1, .int .i64 x1, .int .i64 1, .int .i64 i1, .int .i64 0, .int .i64 x1]) →
          Calls Try.prog 14 #[.int .i64 ((x1 : Int) + 1), v3] w3' (LinksPost w3' (x1 + 1) (lk (runs Gr.new cs))) from fun v3 w3' hb hr => by
        have hc := changed_x (x1 + 1) (by omega) (cs ++ [⟨kd, i1, t1, x1⟩, ⟨1, i1, 0, x1⟩]) v3 w3' (by
          have e1 : (cs ++ ([⟨kd, i1, t1, x1⟩, ⟨1, i1, 0, x1⟩] : List Ch)).length = 0 + cs.length + 2 := by simp
          have e2 : (cs ++ ([⟨kd, i1, t1, x1⟩, ⟨1, i1, 0, x1⟩] : List Ch)).flatMap chCells = [] ++ cs.flatMap chCells ++ [.int .i64 kd, .int .i64 i1, .int .i64 t1, .int .i64 x1, .int .i64 1, .int .i64 i1, .int .i64 0, .int .i64 x1] := by simp [chCells]
          rw [e1, e2]
          exact ownsRow_base hr (Nat.zero_le _)) (by simp; omega) HUN.out.2
        rw [HUN.out.1] at hc
        exact hc)
      clear hp hx hk HX3 HR3 H3 c0 c1 ck cp hun hbx
      obtain ⟨i0', hi, hz0, hz1, hz2⟩ := info_parts Try.info29
      have hwn : IntKind.i64.wrap ((x1 : Int) + 1) = (x1 : Int) + 1 := IntWalk.i64_in _ (by omega)
      go_upto_region 13 with (fail)
      go_cut [17] from 78 to 88 (fun u17 wx => wx.ownsRow w4.heap.size 44 7 u17 (x1 + 1) ((List.range (x1 + 1)).flatMap fun i => lkCells (lk (runs Gr.new cs) i)) ∧ Below w4.heap.size w4 wx)
      case first =>
        have hS : w4.drew.cell? ⟨b15, 0, none⟩ = some (.int .i64 kd) ∧ w4.drew.cell? ⟨b15, 1, none⟩ = some (.int .i64 i1) ∧ w4.drew.cell? ⟨b15, 2, none⟩ = some (.int .i64 t1) ∧ w4.drew.cell? ⟨b15, 3, none⟩ = some (.int .i64 x1) := HBX.out _ HB0.out
        refine wp_region_last (fun w' => w'.cell? ⟨b15, 0, none⟩ = some (.int .i64 kd) ∧ w'.cell? ⟨b15, 1, none⟩ = some (.int .i64 i1) ∧ w'.cell? ⟨b15, 2, none⟩ = some (.int .i64 t1) ∧ w'.cell? ⟨b15, 3, none⟩ = some (.int .i64 x1)) 11 (by kernel_rfl) ?_
        refine wpAnyL_take (i := 0) (v := ?v0) 78 rfl rfl (by kernel_rfl) (by kernel_rfl) (by kernel_rfl) (by kernel_rfl) (fun _ _ _ h => h) (by rfl) ?h0 hS ?r0
        case h0 => (intro w' hSw; obtain ⟨s1, s2, s3, s4⟩ := hSw; go_simp <;> with_reducible rfl)
        simp only [List.setIfInBounds_toArray, List.set_cons_zero, List.set_cons_succ]
        refine wpAnyL_take (i := 1) (v := ?v1) 79 rfl rfl (by kernel_rfl) (by kernel_rfl) (by kernel_rfl) (by kernel_rfl) (fun _ _ _ h => h) (by rfl) ?h1 hS ?r1
        case h1 => (intro w' hSw; obtain ⟨s1, s2, s3, s4⟩ := hSw; go_simp <;> with_reducible rfl)
        simp only [List.setIfInBounds_toArray, List.set_cons_zero, List.set_cons_succ]
        refine wpAnyL_take (i := 2) (v := ?v2) 80 rfl rfl (by kernel_rfl) (by kernel_rfl) (by kernel_rfl) (by kernel_rfl) (fun _ _ _ h => h) (by rfl) ?h2 hS ?r2
        case h2 => (intro w' hSw; obtain ⟨s1, s2, s3, s4⟩ := hSw; go_simp <;> with_reducible rfl)
        simp only [List.setIfInBounds_toArray, List.set_cons_zero, List.set_cons_succ]
        refine wpAnyL_take (i := 4) (v := ?v4) 82 rfl rfl (by kernel_rfl) (by kernel_rfl) (by kernel_rfl) (by kernel_rfl) (fun _ _ _ h => h) (by rfl) ?h4 hS ?r4
        case h4 => (intro w' hSw; obtain ⟨s1, s2, s3, s4⟩ := hSw; go_simp <;> with_reducible rfl)
        simp only [List.setIfInBounds_toArray, List.set_cons_zero, List.set_cons_succ]
        refine wpAnyL_take (i := 5) (v := ?v5) 83 rfl rfl (by kernel_rfl) (by kernel_rfl) (by kernel_rfl) (by kernel_rfl) (fun _ _ _ h => h) (by rfl) ?h5 hS ?r5
        case h5 => (intro w' hSw; obtain ⟨s1, s2, s3, s4⟩ := hSw; go_simp <;> with_reducible rfl)
        simp only [List.setIfInBounds_toArray, List.set_cons_zero, List.set_cons_succ]
        refine wpAnyL_take (i := 6) (v := ?v6) 84 rfl rfl (by kernel_rfl) (by kernel_rfl) (by kernel_rfl) (by kernel_rfl) (fun _ _ _ h => h) (by rfl) ?h6 hS ?r6
        case h6 => (intro w' hSw; obtain ⟨s1, s2, s3, s4⟩ := hSw; go_simp <;> with_reducible rfl)
        simp only [List.setIfInBounds_toArray, List.set_cons_zero, List.set_cons_succ]
        refine wpAnyL_take (i := 7) (v := ?v7) 85 rfl rfl (by kernel_rfl) (by kernel_rfl) (by kernel_rfl) (by kernel_rfl) (fun _ _ _ h => h) (by rfl) ?h7 hS ?r7
        case h7 => (intro w' hSw; obtain ⟨s1, s2, s3, s4⟩ := hSw; go_simp <;> with_reducible rfl)
        simp only [List.setIfInBounds_toArray, List.set_cons_zero, List.set_cons_succ]
        refine wpAnyL_twoD (i := 3) (i' := 8) 81 86 (by kernel_rfl) rfl rfl rfl rfl (fun K1 hK1 => ?fst) (fun K1 hK1 => ?snd)
        case fst =>
          refine step_append_row _ (by rfl) (.const (.slice none 0 0)) (.tmp 80) 25 (by rfl) w4.heap.size 29 i0' (.agg #[.int .i64 0, .int .i64 0, .int .i64 0, .int .i64 0]) 4 32 Try.underlying25 hi hz0 hz1 hz2 rfl (by decide) (.slice none 0 0) 0 [] (by rfl) (World.ownsRow_nil _ _ _ _) (HRW.out _ (HB0.out)) (by rfl) HONE.out (by unfold maxLen; omega) (by omega) (HB0.out).size ?_
          intro v1 w1 hown1 hgrow1
          have hb1 := below_grown (HB0.out) (HB0.out).size hgrow1
          have hS : w1.cell? ⟨b15, 0, none⟩ = some (.int .i64 kd) ∧ w1.cell? ⟨b15, 1, none⟩ = some (.int .i64 i1) ∧ w1.cell? ⟨b15, 2, none⟩ = some (.int .i64 t1) ∧ w1.cell? ⟨b15, 3, none⟩ = some (.int .i64 x1) := HBX.out _ (hb1)
          refine hK1.out _ _ (fun _ => hS) ?_
          clear hK1 K1
          try simp only [List.setIfInBounds_toArray, List.set_cons_zero, List.set_cons_succ]
          refine wpAnyL_one (i := 8) (by kernel_rfl) rfl (fun K1 hK1 => ?_)
          go_simp
          have hcx := news_new w1 [.int .i64 kd, .int .i64 i1, .int .i64 t1, .int .i64 x1, .int .i64 1, .int .i64 i1, .int .i64 0, .int .i64 x1]
          obtain ⟨b1, hb1e⟩ : ∃ b1, w1.heap.size = b1 := ⟨_, rfl⟩
          have hbb := below_alloc hb1 hb1.size (.cells #[.int .i64 kd, .int .i64 i1, .int .i64 t1, .int .i64 x1, .int .i64 1, .int .i64 i1, .int .i64 0, .int .i64 x1] 29 (0, 0))
          have hownb := row_alloc hown1 (.cells #[.int .i64 kd, .int .i64 i1, .int .i64 t1, .int .i64 x1, .int .i64 1, .int .i64 i1, .int .i64 0, .int .i64 x1] 29 (0, 0))
          simp only [hb1e] at hcx ⊢
          obtain ⟨w2', hw2⟩ : ∃ w2', w1.alloc (.cells #[.int .i64 kd, .int .i64 i1, .int .i64 t1, .int .i64 x1, .int .i64 1, .int .i64 i1, .int .i64 0, .int .i64 x1] 29 (0, 0)) = w2' := ⟨_, rfl⟩
          simp only [hw2] at hcx hbb hownb ⊢
          have hS : w2'.cell? ⟨b15, 0, none⟩ = some (.int .i64 kd) ∧ w2'.cell? ⟨b15, 1, none⟩ = some (.int .i64 i1) ∧ w2'.cell? ⟨b15, 2, none⟩ = some (.int .i64 t1) ∧ w2'.cell? ⟨b15, 3, none⟩ = some (.int .i64 x1) := HBX.out _ (hbb)
          refine hK1.out _ _ (fun _ => hS) ?_
          clear hK1 K1
          try simp only [List.setIfInBounds_toArray, List.set_cons_zero, List.set_cons_succ]
          clear hw2 hb1e
          refine wpAnyL_oneD (i := 9) 87 (by kernel_rfl) rfl rfl (fun K1 hK1 => ?_)
          refine step_append_at _ (by rfl) (.tmp 81) (.tmp 86) 25 (by rfl) w4.heap.size 29 i0' (.agg #[.int .i64 0, .int .i64 0, .int .i64 0, .int .i64 0]) 4 32 Try.underlying25 hi hz0 hz1 hz2 rfl (by decide) _ _ _ (by rfl) hownb ⟨b1, 0, none⟩ 2 2 [.int .i64 kd, .int .i64 i1, .int .i64 t1, .int .i64 x1, .int .i64 1, .int .i64 i1, .int .i64 0, .int .i64 x1] (by rfl) rfl hcx (by simp [Value.oneCell']) (by unfold maxLen; omega) (by omega) hbb.size ?_
          intro v3 w3' hown3 hgrow3
          have hb3 := below_more hbb hownb hgrow3
          have hS : w3'.cell? ⟨b15, 0, none⟩ = some (.int .i64 kd) ∧ w3'.cell? ⟨b15, 1, none⟩ = some (.int .i64 i1) ∧ w3'.cell? ⟨b15, 2, none⟩ = some (.int .i64 t1) ∧ w3'.cell? ⟨b15, 3, none⟩ = some (.int .i64 x1) := HBX.out _ (hb3)
          refine hK1.out _ _ (fun _ => hS) ?_
          clear hK1 K1
          try simp only [List.setIfInBounds_toArray, List.set_cons_zero, List.set_cons_succ]
          have H5 := Lib.hid (HCALL.out v3 w3' hb3 hown3)
          clear hown3 hgrow3 hownb hcx hbb hown1 hgrow1
          refine wpAnyL_oneD (i := 10) 88 (by kernel_rfl) rfl rfl (fun K1 hK1 => ?_)
          go_simp
          refine H5.out.mono ?_
          rintro e w5 ⟨v5, rfl, hr5, hb5⟩
          have hB5 := hb3.trans (hb5.mono hb3.size)
          have H6 := Lib.hid (And.intro (ownsRow_base hr5 hb3.size) hB5)
          have hS : w5.cell? ⟨b15, 0, none⟩ = some (.int .i64 kd) ∧ w5.cell? ⟨b15, 1, none⟩ = some (.int .i64 i1) ∧ w5.cell? ⟨b15, 2, none⟩ = some (.int .i64 t1) ∧ w5.cell? ⟨b15, 3, none⟩ = some (.int .i64 x1) := HBX.out _ (hB5)
          refine hK1.out _ _ (fun _ => hS) ?_
          clear hK1 K1 H5 hr5 hb5 hb3 hB5
          try simp only [List.setIfInBounds_toArray, List.set_cons_zero, List.set_cons_succ]
          refine wpAnyL_one (i := 11) (by kernel_rfl) rfl (fun K1 hK1 => ?_)
          go_simp
          refine hK1.out _ _ (fun h => absurd rfl h) ?_
          clear hK1 K1
          refine wpAnyL_done (by kernel_rfl) ?_ _
          go_wp2_with fail
          go_meet
          case rel => exact H6.out
        case snd =>
          go_simp
          have hcx : ∀ j u, ([.int .i64 kd, .int .i64 i1, .int .i64 t1, .int .i64 x1, .int .i64 1, .int .i64 i1, .int .i64 0, .int .i64 x1] : List Value)[j]? = some u → (w4.alloc (.cells #[.int .i64 kd, .int .i64 i1, .int .i64 t1, .int .i64 x1, .int .i64 1, .int .i64 i1, .int .i64 0, .int .i64 x1] 29 (0, 0))).drew.cell? ((⟨w4.heap.size, 0, none⟩ : Addr).add j) = some u := news_new w4 [.int .i64 kd, .int .i64 i1, .int .i64 t1, .int .i64 x1, .int .i64 1, .int .i64 i1, .int .i64 0, .int .i64 x1]
          obtain ⟨b1, hb1e⟩ : ∃ b1, w4.heap.size = b1 := ⟨_, rfl⟩
          have hbA : Below w4.heap.size w4 (w4.alloc (.cells #[.int .i64 kd, .int .i64 i1, .int .i64 t1, .int .i64 x1, .int .i64 1, .int .i64 i1, .int .i64 0, .int .i64 x1] 29 (0, 0))).drew := let q := below_alloc HB0.out HB0.out.size (.cells #[.int .i64 kd, .int .i64 i1, .int .i64 t1, .int .i64 x1, .int .i64 1, .int .i64 i1, .int .i64 0, .int .i64 x1] 29 (0, 0)); ⟨q.os, q.tape, q.output, q.size, q.block⟩
          obtain ⟨w1, hw1⟩ : ∃ w1, (w4.alloc (.cells #[.int .i64 kd, .int .i64 i1, .int .i64 t1, .int .i64 x1, .int .i64 1, .int .i64 i1, .int .i64 0, .int .i64 x1] 29 (0, 0))).drew = w1 := ⟨_, rfl⟩
          rw [hw1] at hcx hbA
          simp only [hw1, hb1e] at hcx ⊢
          have hcb : b1 < w1.heap.size := World.block_lt_of_cell? w1 _ (hcx 0 _ rfl)
          have hS : w1.cell? ⟨b15, 0, none⟩ = some (.int .i64 kd) ∧ w1.cell? ⟨b15, 1, none⟩ = some (.int .i64 i1) ∧ w1.cell? ⟨b15, 2, none⟩ = some (.int .i64 t1) ∧ w1.cell? ⟨b15, 3, none⟩ = some (.int .i64 x1) := HBX.out _ (hbA)
          refine hK1.out _ _ (fun _ => hS) ?_
          clear hK1 K1
          try simp only [List.setIfInBounds_toArray, List.set_cons_zero, List.set_cons_succ]
          have hb1e' := Lib.hid hb1e
          clear hb1e hw1
          refine wpAnyL_oneD (i := 3) 81 (by kernel_rfl) rfl rfl (fun K1 hK1 => ?_)
          refine step_append_row _ (by rfl) (.const (.slice none 0 0)) (.tmp 80) 25 (by rfl) w4.heap.size 29 i0' (.agg #[.int .i64 0, .int .i64 0, .int .i64 0, .int .i64 0]) 4 32 Try.underlying25 hi hz0 hz1 hz2 rfl (by decide) (.slice none 0 0) 0 [] (by rfl) (World.ownsRow_nil _ _ _ _) (HRW.out _ (hbA)) (by rfl) HONE.out (by unfold maxLen; omega) (by omega) (hbA).size ?_
          intro v1 w2' hown1 hgrow1
          have hb1 := below_grown (hbA) (hbA).size hgrow1
          have hbb := hb1
          have hownb := hown1
          have hcx : ∀ j u, ([.int .i64 kd, .int .i64 i1, .int .i64 t1, .int .i64 x1, .int .i64 1, .int .i64 i1, .int .i64 0, .int .i64 x1] : List Value)[j]? = some u → w2'.cell? ((⟨b1, 0, none⟩ : Addr).add j) = some u := fun j u hu => by
            rw [add_at]
            exact (World.cell?_of_block (w := w1) (w' := w2') (a := ⟨b1, 0 + j, none⟩) (hgrow1.block _ hcb (by simp [Value.ownBlock]))).trans (by have := hcx j u hu; rwa [add_at] at this)
          have hS : w2'.cell? ⟨b15, 0, none⟩ = some (.int .i64 kd) ∧ w2'.cell? ⟨b15, 1, none⟩ = some (.int .i64 i1) ∧ w2'.cell? ⟨b15, 2, none⟩ = some (.int .i64 t1) ∧ w2'.cell? ⟨b15, 3, none⟩ = some (.int .i64 x1) := HBX.out _ (hbb)
          refine hK1.out _ _ (fun _ => hS) ?_
          clear hK1 K1
          try simp only [List.setIfInBounds_toArray, List.set_cons_zero, List.set_cons_succ]
          refine wpAnyL_oneD (i := 9) 87 (by kernel_rfl) rfl rfl (fun K1 hK1 => ?_)
          refine step_append_at _ (by rfl) (.tmp 81) (.tmp 86) 25 (by rfl) w4.heap.size 29 i0' (.agg #[.int .i64 0, .int .i64 0, .int .i64 0, .int .i64 0]) 4 32 Try.underlying25 hi hz0 hz1 hz2 rfl (by decide) _ _ _ (by rfl) hownb ⟨b1, 0, none⟩ 2 2 [.int .i64 kd, .int .i64 i1, .int .i64 t1, .int .i64 x1, .int .i64 1, .int .i64 i1, .int .i64 0, .int .i64 x1] (by rfl) rfl hcx (by simp [Value.oneCell']) (by unfold maxLen; omega) (by omega) hbb.size ?_
          intro v3 w3' hown3 hgrow3
          have hb3 := below_more hbb hownb hgrow3
          have hS : w3'.cell? ⟨b15, 0, none⟩ = some (.int .i64 kd) ∧ w3'.cell? ⟨b15, 1, none⟩ = some (.int .i64 i1) ∧ w3'.cell? ⟨b15, 2, none⟩ = some (.int .i64 t1) ∧ w3'.cell? ⟨b15, 3, none⟩ = some (.int .i64 x1) := HBX.out _ (hb3)
          refine hK1.out _ _ (fun _ => hS) ?_
          clear hK1 K1
          try simp only [List.setIfInBounds_toArray, List.set_cons_zero, List.set_cons_succ]
          have H5 := Lib.hid (HCALL.out v3 w3' hb3 hown3)
          clear hown3 hgrow3 hownb hcx hbb hown1 hgrow1
          refine wpAnyL_oneD (i := 10) 88 (by kernel_rfl) rfl rfl (fun K1 hK1 => ?_)
          go_simp
          refine H5.out.mono ?_
          rintro e w5 ⟨v5, rfl, hr5, hb5⟩
          have hB5 := hb3.trans (hb5.mono hb3.size)
          have H6 := Lib.hid (And.intro (ownsRow_base hr5 hb3.size) hB5)
          have hS : w5.cell? ⟨b15, 0, none⟩ = some (.int .i64 kd) ∧ w5.cell? ⟨b15, 1, none⟩ = some (.int .i64 i1) ∧ w5.cell? ⟨b15, 2, none⟩ = some (.int .i64 t1) ∧ w5.cell? ⟨b15, 3, none⟩ = some (.int .i64 x1) := HBX.out _ (hB5)
          refine hK1.out _ _ (fun _ => hS) ?_
          clear hK1 K1 H5 hr5 hb5 hb3 hB5
          try simp only [List.setIfInBounds_toArray, List.set_cons_zero, List.set_cons_succ]
          refine wpAnyL_one (i := 11) (by kernel_rfl) rfl (fun K1 hK1 => ?_)
          go_simp
          refine hK1.out _ _ (fun h => absurd rfl h) ?_
          clear hK1 K1
          refine wpAnyL_done (by kernel_rfl) ?_ _
          go_wp2_with fail
          go_meet
          case rel => exact H6.out
      case rest =>
        obtain ⟨hr6, hb6⟩ := hcut
        obtain ⟨g6, ao6, cap6, rfl, hcap6, hs6⟩ := own_shape hr6
        obtain ⟨rfl, -, -, hc6⟩ := hs6 (by omega)
        have hcp := hc6 (x1 * 7) (by omega)
        rw [List.range_eq_range', show x1 * 7 = x1 * 7 + 0 from rfl, lk_flat (x1 + 1) 0 x1 _ 0 (by omega) (by omega)] at hcp
        have hpn : (runs Gr.new cs).par x1 = none := HWF.out.none (Nat.le_refl _)
        have hcp' : wc.cell? ⟨g6, x1 * 7, none⟩ = some (.int .i64 (-1)) := by simpa [lkCells, lk, hpn, pn] using hcp
        have HR6 := Lib.hid (lk_take x1 (lk (runs Gr.new cs)) ▸ row_take hr6 (Nat.le_succ x1))
        have H6 := Lib.hid (H4.out.over hb6)
        have HR7 := Lib.hid ((Kept.of_below (S := fun _ => False) hb6).row HR4.out (fun _ _ => id))
        clear hr6 hb6 hs6 hc6 hcp hpn H4 HBX HB0 HRW HONE HCALL
        have hgl6 := World.block_lt_of_cell? wc _ hcp'
        have hcap6' : x1 + 1 ≤ cap6 := hcap6
        go_wp2_with fail
        refine (same_c (by omega) HR6.out HR7.out).mono ?_
        rintro e w8 ⟨rfl, hb8⟩
        have hcq : w8.cell? ⟨g6, x1 * 7, none⟩ = some (.int .i64 (-1)) := by rw [hb8.cell (p := ⟨g6, x1 * 7, none⟩) hgl6]; exact hcp'
        have H8 := Lib.hid (H6.out.over hb8).below
        clear hcp' hb8
        go_wp2_with fail
        go_ret
        exact ⟨rfl, H8.out⟩
end Go.Proofs.Ytlggpodblabmdaa
