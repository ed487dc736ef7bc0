/- Reading a value of a named kind of numbers: it is handed from slot to slot ahead of its store. -/
import Derived.Test.YtfchajjllhndlaaDoorMe
namespace Go.Proofs.YtfchajjllhndlaaDoor
open Go Go.RowKit
set_option linter.unusedVariables false

section
variable {RT : RTags} {P : Program} {N nt gE : Nat} {E : Value} {K : Slots} {lo t : Nat} {ver : Int} {flex : Bool}
/-- '..; v = T(w)'. -/
theorem rdL_copy {bp u v t1 r y1 y2 : Nat} {p1 p2 : String} {e1 e2 : Array Edge} {c : Code} {lf : Leaf} (hD : Dims N nt lo t) (hd : t ≤ t1 ∧ t1 < nt ∧ lo ≤ v ∧ v < N) (h : RdL P N nt gE E ver flex K lo t bp c u lf) :
    RdL P N nt gE E ver flex K lo t bp (c.seq (Code.region r #[⟨some t1, .move (.tmp u), y1, p1, e1, none⟩, ⟨some v, .assign (.tmp t1), y2, p2, e2, none⟩] false)) v lf := by
  intro O rb b T a w cs st Q hN hh hst hq
  have x1 := hD.dOne; have x2 := hD.dLo; have x3 := hD.dT; have x4 := hD.dN
  refine wp_seq (h O rb b T a w cs st _ hN hh hst fun a1 w1 x hx hone hst1 hf1 hk1 hlv => ?_)
  refine reg_copy (x0 := nt) (lo := lo) (hf1.size.trans hN) hx ⟨hD.dT, hd.1, hd.2.1, hd.2.2.1, hd.2.2.2⟩ fun a2 hf2 hx2 => ?_
  exact hq a2 w1 x hx2 hone hst1 (hf1.trans hf2) hk1 hlv
/-- '{ ..; v := w; s.F = v }'. -/
theorem rdF_leafC {s bp rs u v t0 t1 t2 T' k U off r r0 y1 y2 ty1 ty2 ty3 ty4 ty5 : Nat} {q1 q2 p1 p2 p3 p4 p5 : String} {g1 g2 e1 e2 e3 e4 e5 : Array Edge} {c : Code} {lf : Leaf}
    (hk : KOK N lo t ((s, .int .i64 0) :: (bp, .int .i64 0) :: K)) (hT : FieldAt P T' k off) (hU : OneCell P U) (hD : Dims N nt lo t) (hd : t ≤ t1 ∧ t1 + 3 < nt ∧ v ≠ t1 ∧ t ≤ t0 ∧ t0 < nt ∧ lo ≤ v ∧ v < N) (hlf : lf ≠ .uuid) (h : RdL P N nt gE E ver flex K lo t bp c u lf) :
    RdF RT P N nt gE E ver flex K lo t s bp rs (c.seq ((Code.region r0 #[⟨some t0, .move (.tmp u), y1, q1, g1, none⟩, ⟨some v, .assign (.tmp t0), y2, q2, g2, none⟩] false).seq
      (Code.region r #[⟨some t1, .move (.tmp s), ty1, p1, e1, none⟩, ⟨some (t1 + 1), .move (.tmp v), ty2, p2, e2, none⟩, ⟨some (t1 + 2), .nilCheck (.tmp t1), ty3, p3, e3, none⟩, ⟨some (t1 + 3), .fieldAddr T' (.tmp (t1 + 2)) k, ty4, p4, e4, none⟩,
      ⟨none, .store U (.tmp (t1 + 3)) (.tmp (t1 + 1)), ty5, p5, e5, none⟩] false))) off (.leaf lf) := by
  intro O rb b o T a w cs st Q hN hh hst hF hq hr
  obtain ⟨d1, d2, d3, d4, d5, d6, d7⟩ := hd
  have hl : o + off < cs.length := by cases lf <;> first | exact hF | exact absurd rfl hlf
  have ht : top (.leaf lf) = 1 := by cases lf <;> first | rfl | exact absurd rfl hlf
  refine wp_seq (h O rb b T a w cs st _ hN hh.tail hst fun a1 w1 x hx hone hst1 hf1 hk1 hlv => ?_)
  refine wp_seq (reg_copy (x0 := nt) (lo := lo) (hf1.size.trans hN) hx ⟨hD.dT, d4, d5, d6, d7⟩ fun a2 hf2 hx2 => ?_)
  have hf02 := hf1.trans hf2
  have hh2 := hh.frR (kokR hk) hD hf02
  refine reg_store hT hU (hf02.size.trans hN) hh2.head hx2 hone hst1.blk hl hD ⟨d1, d2, d3⟩ fun a3 hf3 => ?_
  refine hq a3 _ _ (hst1.store (o + off) x) (hf02.trans hf3) ((keeps_rb hk1).trans (keeps_b w1 _ _)) ?_ ?_
  · rw [ht]
    exact SameOut.set cs (o + off) x
  · intro v r hv
    have hb : Keeps O w1 (w1.setCell ⟨b, o + off, none⟩ x) := (Keeps.refl O w1).setCell hst.bO _
    exact ((hlv v r hv).keeps hb).rep ((hst1.blk.set (o + off) x).cell_some (by rw [List.getElem?_set_self hl]))
end
end Go.Proofs.YtfchajjllhndlaaDoor
