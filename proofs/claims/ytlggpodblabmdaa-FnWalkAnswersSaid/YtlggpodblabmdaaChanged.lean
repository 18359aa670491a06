/-
  What impl.Changed tells, by a contract; a lemma text, no statement of the seat.
-/
import Derived.Test.YtlggpodblabmdaaLinks
namespace Go.Proofs.Ytlggpodblabmdaa
open Go.RowKit

theorem valids_wf : ∀ (n : Nat) (cs : List Ch) (T : Gr), WF n T → Valids n T cs → WF n (runs T cs)
  | _, [], _, h, _ => h
  | n, c :: cs, T, h, hv => valids_wf n cs (T.act c) (h.act hv.1) hv.2

theorem LinksPost.below {w w0 w' : World} {n : Nat} {G : Nat → Nd} {e : Ending} (hb : Below w.heap.size w w0) (h : LinksPost w0 n G e w') : LinksPost w n G e w' := by
  obtain ⟨v, rfl, hr, hb'⟩ := h
  exact ⟨v, rfl, ownsRow_base hr hb.size, hb.trans (hb'.mono hb.size)⟩

theorem changed_c (n : Nat) (hn : n ≤ 1000) (cs : List Ch) (v : Value) (w : World) (hl : w.ownsRow 0 29 4 v cs.length (cs.flatMap chCells)) (hlen : cs.length ≤ 2147483648) (hv : Valids n Gr.new cs) :
    Calls Try.prog 14 #[.int .i64 n, v] w (LinksPost w n (lk (runs Gr.new cs))) := by
  have c := nodes_c n hn cs v w hl hlen hv
  have hwf := valids_wf n cs _ (wf_new n) hv
  have HWF := Lib.hid hwf
  clear hl hv hwf
  go_enter Try.func14, Try.ntmps14
  go_wp2_with fail
  refine c.mono ?_
  rintro e w1 ⟨N, v1, rfl, hr, hrep, -, hb⟩
  clear c
  have c1 := links_c hn hr hrep (ok_lk HWF.out)
  have HB := Lib.hid hb
  clear hr hrep hb
  go_wp2_with fail
  refine c1.mono ?_
  intro e w2 h
  obtain ⟨v2, rfl, hr2, hb2⟩ := h.below HB.out
  have HR := Lib.hid (And.intro hr2 hb2)
  clear c1 hr2 hb2 h
  go_wp2_with fail
  go_ret
  exact ⟨_, rfl, HR.out.1, HR.out.2⟩
end Go.Proofs.Ytlggpodblabmdaa
