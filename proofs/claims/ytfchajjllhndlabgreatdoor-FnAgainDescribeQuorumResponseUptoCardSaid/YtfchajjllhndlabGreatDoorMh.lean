/- Shared texts of these proofs, laid together by merge.py: Ag, Re, Rpp, Appd, Rx. -/
import Derived.Test.YtfchajjllhndlabGreatDoorMg
import Derived.Test.YtfchajjllhndlabGreatDoorMe
import Derived.Test.YtfchajjllhndlabGreatDoorMf
set_option linter.unusedVariables false
/- What againgen.py's texts lean on. -/
namespace Go.Proofs.YtfchajjllhndlabGreatDoor
open Go Go.RowKit

theorem RepU.upB {B B' : Nat} {w : World} {u : List (Nat × List UInt8)} {v : Value} (h : RepU B w u v) (hB : B ≤ B') : RepU B' w u v := by
  obtain ⟨a, cap, hv, h1, h2, hr⟩ := h
  refine ⟨a, cap, hv, h1, h2, fun hn => ?_⟩
  obtain ⟨p, q, ha, hp, hc⟩ := hr hn
  refine ⟨p, q, ha, by omega, fun i kv hi => ?_⟩
  obtain ⟨c0, hk, x, c1, hx⟩ := hc i kv hi
  exact ⟨c0, hk, x, c1, hx.mono hB⟩
theorem RepT.upB {B B' : Nat} {w : World} (hB : B ≤ B') {c : List Value} {t : Tree} (h : RepT B w c t) : RepT B' w c t := by
  induction h with
  | mk n s null l u sv uv a cap f hn hs hu hcap hl hf ih =>
    refine .mk n s null l u sv uv a cap f hn (hs.mono hB) (hu.upB hB) hcap (fun hne => ?_) ih
    obtain ⟨p, q, ha, hp, h⟩ := hl hne
    exact ⟨p, q, ha, by omega, h⟩
theorem RB.cut {O : List Nat} {w : World} {a : Option Addr} {n cap k : Nat} {bs : List UInt8} (h : RB O w (.slice a n cap) bs) (hk : k ≤ bs.length) : RB O w (.slice a k cap) (bs.take k) := by
  obtain ⟨a', cap', hv, h1, h2, h3⟩ := h
  cases hv
  have hl : (bs.take k).length = k := by rw [List.length_take]; omega
  refine ⟨a, cap, by rw [hl], by omega, h2, fun hne => ?_⟩
  obtain ⟨b, o, ha, hb, hc⟩ := h3 (by intro e; subst e; simp at hne)
  refine ⟨b, o, ha, hb, fun i u hi => hc i u ?_⟩
  rw [List.getElem?_take] at hi
  split at hi
  · exact hi
  · cases hi
theorem RB.drew {O : List Nat} {w : World} {v : Value} {bs : List UInt8} (h : RB O w v bs) : RB O w.drew v bs := h
end Go.Proofs.YtfchajjllhndlabGreatDoor

/- Reading a value of a named kind of numbers: it is handed from slot to slot ahead of its store. -/
namespace Go.Proofs.YtfchajjllhndlabGreatDoor
open Go Go.RowKit
set_option linter.unusedVariables false

section
variable {RT : RTags} {P : Program} {N nt gE : Nat} {E : Value} {K : Slots} {lo t : Nat} {ver : Int} {flex : Bool}
/-- '..; v = T(w)'. -/
theorem rdL_copy {bp u v t1 r y1 y2 : Nat} {p1 p2 : String} {e1 e2 : Array Edge} {c : Code} {lf : Leaf} (hD : Dims N nt lo t) (hd : t ≤ t1 ∧ t1 < nt ∧ lo ≤ v ∧ v < N) (h : RdL P N nt gE E ver flex K lo t bp c u lf) :
    RdL P N nt gE E ver flex K lo t bp (c.seq (Code.region r #[⟨some t1, .move (.tmp u), y1, p1, e1, none⟩, ⟨some v, .assign (.tmp t1), y2, p2, e2, none⟩] false)) v lf := by
  intro O rb b T a w cs st Q hN hh hst hq
  have x1 := hD.dOne; have x2 := hD.dLo; have x3 := hD.dT; have x4 := hD.dN
  refine wp_seq (h O rb b T a w cs st _ hN hh hst fun a1 w1 x hx hone hst1 hf1 hk1 hlv => ?_)
  refine reg_copy (x0 := nt) (lo := lo) (hf1.size.trans hN) hx ⟨hD.dT, hd.1, hd.2.1, hd.2.2.1, hd.2.2.2⟩ fun a2 hf2 hx2 => ?_
  exact hq a2 w1 x hx2 hone hst1 (hf1.trans hf2) hk1 hlv
/-- '{ ..; v := w; s.F = v }'. -/
theorem rdF_leafC {s bp rs u v t0 t1 t2 T' k U off r r0 y1 y2 ty1 ty2 ty3 ty4 ty5 : Nat} {q1 q2 p1 p2 p3 p4 p5 : String} {g1 g2 e1 e2 e3 e4 e5 : Array Edge} {c : Code} {lf : Leaf}
    (hk : KOK N lo t ((s, .int .i64 0) :: (bp, .int .i64 0) :: K)) (hT : FieldAt P T' k off) (hU : OneCell P U) (hD : Dims N nt lo t) (hd : t ≤ t1 ∧ t1 + 3 < nt ∧ v ≠ t1 ∧ t ≤ t0 ∧ t0 < nt ∧ lo ≤ v ∧ v < N) (hlf : lf ≠ .uuid) (h : RdL P N nt gE E ver flex K lo t bp c u lf) :
    RdF RT P N nt gE E ver flex K lo t s bp rs (c.seq ((Code.region r0 #[⟨some t0, .move (.tmp u), y1, q1, g1, none⟩, ⟨some v, .assign (.tmp t0), y2, q2, g2, none⟩] false).seq
      (Code.region r #[⟨some t1, .move (.tmp s), ty1, p1, e1, none⟩, ⟨some (t1 + 1), .move (.tmp v), ty2, p2, e2, none⟩, ⟨some (t1 + 2), .nilCheck (.tmp t1), ty3, p3, e3, none⟩, ⟨some (t1 + 3), .fieldAddr T' (.tmp (t1 + 2)) k, ty4, p4, e4, none⟩,
      ⟨none, .store U (.tmp (t1 + 3)) (.tmp (t1 + 1)), ty5, p5, e5, none⟩] false))) off (.leaf lf) := by
  intro O rb b o T a w cs st Q hN hh hst hF hq hr
  obtain ⟨d1, d2, d3, d4, d5, d6, d7⟩ := hd
  have hl : o + off < cs.length := by cases lf <;> first | exact hF | exact absurd rfl hlf
  have ht : top (.leaf lf) = 1 := by cases lf <;> first | rfl | exact absurd rfl hlf
  refine wp_seq (h O rb b T a w cs st _ hN hh.tail hst fun a1 w1 x hx hone hst1 hf1 hk1 hlv => ?_)
  refine wp_seq (reg_copy (x0 := nt) (lo := lo) (hf1.size.trans hN) hx ⟨hD.dT, d4, d5, d6, d7⟩ fun a2 hf2 hx2 => ?_)
  have hf02 := hf1.trans hf2
  have hh2 := hh.frR (kokR hk) hD hf02
  refine reg_store hT hU (hf02.size.trans hN) hh2.head hx2 hone hst1.blk hl hD ⟨d1, d2, d3⟩ fun a3 hf3 => ?_
  refine hq a3 _ _ (hst1.store (o + off) x) (hf02.trans hf3) ((keeps_rb hk1).trans (keeps_b w1 _ _)) ?_ ?_
  · rw [ht]
    exact SameOut.set cs (o + off) x
  · intro v r hv
    have hb : Keeps O w1 (w1.setCell ⟨b, o + off, none⟩ x) := (Keeps.refl O w1).setCell hst.bO _
    exact ((hlv v r hv).keeps hb).rep ((hst1.blk.set (o + off) x).cell_some (by rw [List.getElem?_set_self hl]))
end
end Go.Proofs.YtfchajjllhndlabGreatDoor

/- A part within a part. -/
namespace Go.Proofs.YtfchajjllhndlabGreatDoor
open Go Go.RowKit
set_option linter.unusedVariables false

section
variable {RT : RTags} {P : Program} {N nt gE : Nat} {E : Value} {K : Slots} {lo t : Nat} {ver : Int} {flex : Bool}
/-- 'v := &s.F; v.Default(); s := v; ..'. -/
theorem rdF_part {s bp rs v s2 t1 t2 t3 FD Tm kf off r1 r2 r3 y1 y2 y3 y4 y5 y6 y7 y8 lo' t' : Nat} {q1 q2 q3 q4 q5 q6 q7 q8 : String} {g1 g2 g3 g4 g5 g6 g7 g8 : Array Edge} {at_ : Array TypeId} {c : Code} {sch : Sch}
    (hk : KOK N lo t ((bp, .int .i64 0) :: K)) (hT : FieldAt P Tm kf off) (he : Enters P FD) (hDef : DefC P FD sch) (hD : Dims N nt lo t) (hD' : Dims N nt lo' t')
    (hd : t ≤ t1 ∧ t1 + 2 < nt ∧ t ≤ t2 ∧ t2 + 1 < nt ∧ t ≤ t3 ∧ t3 < nt ∧ lo ≤ v ∧ v < N ∧ lo ≤ s2 ∧ s2 < N ∧ lo ≤ lo' ∧ t ≤ t' ∧ v ≠ s2) (h : RdS RT P N nt gE E ver flex K lo' t' s2 bp rs c 0 sch) :
    RdF RT P N nt gE E ver flex K lo t s bp rs ((Code.region r1 #[⟨some t1, .move (.tmp s), y1, q1, g1, none⟩, ⟨some (t1 + 1), .nilCheck (.tmp t1), y2, q2, g2, none⟩, ⟨some (t1 + 2), .fieldAddr Tm (.tmp (t1 + 1)) kf, y3, q3, g3, none⟩, ⟨some v, .assign (.tmp (t1 + 2)), y4, q4, g4, none⟩] false).seq
      ((Code.region r2 #[⟨some t2, .move (.tmp v), y5, q5, g5, none⟩, ⟨some (t2 + 1), .call { callee := .value (.func FD), args := #[.tmp t2], argTypes := at_ }, y6, q6, g6, none⟩] false).seq
      ((Code.region r3 #[⟨some t3, .move (.tmp v), y7, q7, g7, none⟩, ⟨some s2, .assign (.tmp t3), y8, q8, g8, none⟩] false).seq c))) off sch := by
  intro O rb b o T a w cs st Q hN hh hst hF hq hr
  obtain ⟨d1, d2, d3, d4, d5, d6, d7, d8, d9, d10, d11, d12, d13⟩ := hd
  have x1 := hD.dOne; have x2 := hD.dLo; have x3 := hD.dT; have x4 := hD.dN
  have hk' : ∀ x, KOK N lo t ((bp, x) :: K) := fun x q hq => by
    simp only [List.mem_cons] at hq
    rcases hq with rfl | hq
    · exact hk (bp, .int .i64 0) (by simp)
    · exact hk q (by simp [hq])
  refine wp_seq (wp_reg ?_)
  refine wl_move hh.head ?_
  refine wl_nilCheck (ad := ⟨b, o, none⟩) (aget_put_same _ _ _ (by omega)) ?_
  refine wl_fieldAddr hT (aget_put_same _ _ _ (by simp only [size_put]; omega)) ?_
  rw [Addr.add_lit]
  refine wl_assign (aget_put_same _ _ _ (by simp only [size_put]; omega)) ?_
  refine wpList_nil ?_
  have hf1 : Fr N lo t nt a ((((a.put (some t1) (.pointer (some ⟨b, o, none⟩))).put (some (t1 + 1)) (.pointer (some ⟨b, o, none⟩))).put (some (t1 + 2)) (.pointer (some ⟨b, o + off, none⟩))).put (some v) (.pointer (some ⟨b, o + off, none⟩))) := ((((Fr.refl N lo t nt a).put _ _ (by omega)).put _ _ (by omega)).put _ _ (by omega)).put _ _ (by omega)
  have hv1 : aget ((((a.put (some t1) (.pointer (some ⟨b, o, none⟩))).put (some (t1 + 1)) (.pointer (some ⟨b, o, none⟩))).put (some (t1 + 2)) (.pointer (some ⟨b, o + off, none⟩))).put (some v) (.pointer (some ⟨b, o + off, none⟩))) v = .pointer (some ⟨b, o + off, none⟩) := aget_put_same _ _ _ (by simp only [size_put]; omega)
  generalize ((((a.put (some t1) (.pointer (some ⟨b, o, none⟩))).put (some (t1 + 1)) (.pointer (some ⟨b, o, none⟩))).put (some (t1 + 2)) (.pointer (some ⟨b, o + off, none⟩))).put (some v) (.pointer (some ⟨b, o + off, none⟩))) = a1 at *
  have hN1 := hf1.size.trans hN
  simp only [Exit.then]
  refine wp_seq (wp_reg ?_)
  refine wl_move hv1 ?_
  refine wl_call (R := fun en w' => ∃ cs', en = .returned (.tuple #[]) ∧ Blk w' b cs' T ∧ SameOut cs cs' (o + off) (o + off + top sch) ∧ Keeps [b] w w' ∧ Fresh cs' (o + off) sch) he ?_ ?_
  · simp only [List.map_toArray, List.map_cons, List.map_nil, aget_eval]
    rw [aget_put_same _ _ _ (by omega)]
    exact hDef w b (o + off) T cs hst.blk hF
  rintro en w2 ⟨cs2, rfl, hb2, hs2, hk2, hF2⟩
  refine ⟨_, rfl, wpList_nil ?_⟩
  have hst2 := hst.upd hb2 hk2
  have hf2 : Fr N lo t nt a1 ((a1.put (some t2) (.pointer (some ⟨b, o + off, none⟩))).put (some (t2 + 1)) (.tuple #[])) := ((Fr.refl N lo t nt a1).put _ _ (by omega)).put _ _ (by omega)
  have hv2 : aget ((a1.put (some t2) (.pointer (some ⟨b, o + off, none⟩))).put (some (t2 + 1)) (.tuple #[])) v = .pointer (some ⟨b, o + off, none⟩) := by rw [aget_put_other _ _ _ v (by omega), aget_put_other _ _ _ v (by omega)]; exact hv1
  generalize ((a1.put (some t2) (.pointer (some ⟨b, o + off, none⟩))).put (some (t2 + 1)) (.tuple #[])) = a2 at *
  have hN2 := hf2.size.trans hN1
  simp only [Exit.then]
  refine wp_seq (wp_reg ?_)
  refine wl_move hv2 ?_
  refine wl_assign (aget_put_same _ _ _ (by omega)) ?_
  refine wpList_nil ?_
  have hf3 : Fr N lo t nt a2 ((a2.put (some t3) (.pointer (some ⟨b, o + off, none⟩))).put (some s2) (.pointer (some ⟨b, o + off, none⟩))) := ((Fr.refl N lo t nt a2).put _ _ (by omega)).put _ _ (by omega)
  have hs3 : aget ((a2.put (some t3) (.pointer (some ⟨b, o + off, none⟩))).put (some s2) (.pointer (some ⟨b, o + off, none⟩))) s2 = .pointer (some ⟨b, o + off, none⟩) := aget_put_same _ _ _ (by simp only [size_put]; omega)
  generalize ((a2.put (some t3) (.pointer (some ⟨b, o + off, none⟩))).put (some s2) (.pointer (some ⟨b, o + off, none⟩))) = a3 at *
  have hf03 := (hf1.trans hf2).trans hf3
  have hh3 : Holds ((bp, .pointer (some ⟨rb, 0, none⟩)) :: K) a3 := hh.tail.frR (hk' _) hD hf03
  simp only [Exit.then]
  have hkk : Keeps [rb, b] w w2 := hk2.mono (by simp)
  refine h O rb b (o + off) T a3 w2 cs2 st Q (hf03.size.trans hN) (hh3.cons hs3) hst2 hF2 (fun a4 w4 cs4 k1 k2 k3 k4 k5 => ?_) (fun a4 w4 k1 k2 k3 k4 k5 => hr a4 w4 k1 k2 (k3.trans hf03.defers) k4 (hkk.trans k5))
  exact hq a4 w4 cs4 k1 (hf03.trans (k2.mono d11 d12)) (hkk.trans k3) (hs2.trans k4 (by omega) (by omega)) k5
/-- A Default of nothing within a part: '{ v := &v.F; _ = v }'. -/
theorem DefW.sub {sch : Sch} {n i t1 v T' k r y1 y2 y3 y4 : Nat} {q1 q2 q3 q4 : String} {g1 g2 g3 g4 : Array Edge} (hT : FieldAt P T' k i) (hd : 0 < t1 ∧ t1 + 2 < nt ∧ 0 < v) :
    DefW P nt n sch (.region r #[⟨some t1, .move (.tmp 0), y1, q1, g1, none⟩, ⟨some (t1 + 1), .nilCheck (.tmp t1), y2, q2, g2, none⟩, ⟨some (t1 + 2), .fieldAddr T' (.tmp (t1 + 1)) k, y3, q3, g3, none⟩, ⟨some v, .assign (.tmp (t1 + 2)), y4, q4, g4, none⟩] false) := by
  intro w b o T cs a Q hN hdf h0 hB hF hq
  obtain ⟨d1, d2, d3⟩ := hd
  refine wp_reg ?_
  refine wl_move h0 ?_
  refine wl_nilCheck (aget_put_same _ _ _ (by omega)) ?_
  refine wl_fieldAddr hT (aget_put_same _ _ _ (by simp only [size_put]; omega)) ?_
  refine wl_assign rfl ?_
  refine wpList_nil (hq _ _ cs (by simp only [size_put, hN]) (by simp only [defers_put, hdf]) ?_ hB (SameOut.refl _ _ _) (Keeps.refl _ _) hF)
  rw [aget_put_other _ _ _ _ (by omega), aget_put_other _ _ _ _ (by omega), aget_put_other _ _ _ _ (by omega), aget_put_other _ _ _ _ (by omega)]; exact h0
theorem DefW.look {sch : Sch} {n t1 v r y1 : Nat} {q1 : String} {g1 : Array Edge} (hd : 0 < t1 ∧ t1 < nt) : DefW P nt n sch (.region r #[⟨some t1, .move (.tmp v), y1, q1, g1, none⟩] false) := by
  intro w b o T cs a Q hN hdf h0 hB hF hq
  obtain ⟨d1, d2⟩ := hd
  refine wp_reg ?_
  refine wl_move rfl ?_
  refine wpList_nil (hq _ _ cs (by simp only [size_put, hN]) (by simp only [defers_put, hdf]) ?_ hB (SameOut.refl _ _ _) (Keeps.refl _ _) hF)
  rw [aget_put_other _ _ _ _ (by omega)]; exact h0
end
end Go.Proofs.YtfchajjllhndlabGreatDoor

/- A text that may be null from a version on: what is written of it. -/
namespace Go.Proofs.YtfchajjllhndlabGreatDoor
open Go Go.RowKit
set_option linter.unusedVariables false

section
variable {P : Program} {N nt : Nat} {K : Slots} {lo t : Nat}

/-- The code c appends what is written of a text that lies in slot u. -/
def AppStr (P : Program) (N nt : Nat) (flex : Bool) (K : Slots) (lo t u : Nat) (c : Code) : Prop :=
  ∀ (w0 : World) (l : List UInt8), l.length ≤ strMax flex → App P N nt w0 ((u, .string ⟨l.toArray⟩) :: K) lo t c (lenS flex l.length ++ l)
theorem appStr1 {flex : Bool} {u t1 F r ty1 ty2 ty3 ty4 : Nat} {p1 p2 p3 p4 : String} {e1 e2 e3 e4 : Array Edge} {at_ : Array TypeId}
    (he : Enters P F) (hC : ∀ (w0 : World) (l : List UInt8), l.length ≤ strMax flex → AppAt P F (.string ⟨l.toArray⟩) (lenS flex l.length ++ l) w0) (hD : Dims N nt lo t) (hd : t ≤ t1 ∧ t1 + 2 < nt ∧ u ≠ t1) :
    AppStr P N nt flex K lo t u (Code.region r #[⟨some t1, .move (.tmp 1), ty1, p1, e1, none⟩, ⟨some (t1 + 1), .move (.tmp u), ty2, p2, e2, none⟩,
      ⟨some (t1 + 2), .call { callee := .value (.func F), args := #[.tmp t1, .tmp (t1 + 1)], argTypes := at_ }, ty3, p3, e3, none⟩, ⟨some 1, .assign (.tmp (t1 + 2)), ty4, p4, e4, none⟩] false) :=
  fun w0 l hl => app1 he (hC w0 l hl) hD hd
theorem appStr2 {flex : Bool} {sf t1 r ty1 u : Nat} {p1 : String} {e1 : Array Edge} {c1 c2 : Code} (hk : KOK N lo t K) (hu : u ≠ 1 ∧ u < lo) (hf : (sf, Value.bool flex) ∈ K) (hD : Dims N nt lo t) (hd : t ≤ t1 ∧ t1 < nt)
    (h1 : flex = true → AppStr P N nt flex K lo t u c1) (h2 : flex = false → AppStr P N nt flex K lo t u c2) :
    AppStr P N nt flex K lo t u ((Code.region r #[⟨some t1, .move (.tmp sf), ty1, p1, e1, none⟩] false).seq (.cond (.tmp t1) c1 c2)) :=
  fun w0 l hl => app_flag (hk.cons ⟨hu.1, .inl hu.2⟩) (List.mem_cons_of_mem _ hf) hD hd (fun h => h1 h w0 l hl) (fun h => h2 h w0 l hl)

theorem appL_from {ver : Int} {flex : Bool} {sv u v1 v2 t1 T T2 U U2 Us r1 r2 r3 r4 r5 y1 y2 y3 y4 y5 y6 y7 y8 y9 y10 y11 lo' t' : Nat} {p1 p2 p3 p4 p5 p6 p7 p8 p9 p10 p11 : String} {e1 e2 e3 e4 e5 e6 e7 e8 e9 e10 e11 : Array Edge} {n : Int} {c1 c2 : Code}
    (hk : KOK N lo t K) (hsv : (sv, Value.int .i16 ver) ∈ K) (hu : u ≠ 1 ∧ u < lo) (hU : OneCell P Us) (hT2 : P.underlying T2 = some (.pointer (P.pointee T2))) (hD : Dims N nt lo t) (hd : t ≤ t1 ∧ t1 + 7 < nt ∧ lo ≤ v1 ∧ v1 < N ∧ lo ≤ v2 ∧ v2 < N ∧ v1 ≠ v2 ∧ v2 < lo' ∧ lo ≤ lo' ∧ t ≤ t')
    (h1 : AppStr P N nt flex K lo' t' v2 c1) (h2 : ¬ ver < n → AppL P N nt ver flex K lo t u c2 (.nstrFrom n)) :
    AppL P N nt ver flex K lo t u ((Code.region r1 #[⟨some t1, .move (.tmp sv), y1, p1, e1, none⟩, ⟨some (t1 + 1), .binOp .lss T (.tmp t1) (.const (.int .i16 n)) U, y2, p2, e2, none⟩] false).seq (.cond (.tmp (t1 + 1))
      ((Code.region r2 #[⟨some v1, .assign (.const (.string ⟨#[]⟩)), y3, p3, e3, none⟩] false).seq
        (((Code.region r3 #[⟨some (t1 + 2), .move (.tmp u), y4, p4, e4, none⟩, ⟨some (t1 + 3), .binOp .neq T2 (.tmp (t1 + 2)) (.const (.pointer none)) U2, y5, p5, e5, none⟩] false).seq
          (.cond (.tmp (t1 + 3)) (Code.region r4 #[⟨some (t1 + 4), .move (.tmp u), y6, p6, e6, none⟩, ⟨some (t1 + 5), .nilCheck (.tmp (t1 + 4)), y7, p7, e7, none⟩, ⟨some (t1 + 6), .load Us (.tmp (t1 + 5)), y8, p8, e8, none⟩, ⟨some v1, .assign (.tmp (t1 + 6)), y9, p9, e9, none⟩] false) .skip)).seq
          ((Code.region r5 #[⟨some (t1 + 7), .move (.tmp v1), y10, p10, e10, none⟩, ⟨some v2, .assign (.tmp (t1 + 7)), y11, p11, e11, none⟩] false).seq c1)))
      c2)) (.nstrFrom n) := by
  obtain ⟨d1, d2, d3, d4, d5, d6, d7, d8, d9, d10⟩ := hd
  have q1 := hD.dOne
  have q2 := hD.dLo
  have q3 := hD.dT
  have q4 := hD.dN
  intro w0 b o x v hr hc a w bs Q hst hh hl hq
  have hK1 : KOK N lo t ((u, x) :: K) := hk.cons ⟨hu.1, .inl hu.2⟩
  refine wp_seq (reg_cmp (x0 := nt) (lo := lo) (b := decide (ver < n)) hst.size (hh.tail _ hsv) ⟨q3, d1, by omega, q2⟩ (fun w => by rw [run_cmp_i16]) fun a1 hf1 hx1 => ?_)
  have hst1 := hst.fr hf1 hD
  have hh1 := hh.fr hK1 (hf1.to1 hD)
  by_cases hv : ver < n
  · rw [decide_eq_true hv] at hx1
    refine wp_cond_true hx1 ?_
    -- what the text says
    have hX : ∃ l : List UInt8, l.length ≤ strMax flex ∧ apLeaf ver flex (.nstrFrom n) v = lenS flex l.length ++ l ∧ ((x = .pointer none ∧ l = []) ∨ ∃ p q, x = .pointer (some ⟨p, q, none⟩) ∧ w0.cell? ⟨p, q, none⟩ = some (.string ⟨l.toArray⟩)) := by
      cases v <;> simp only [RepLeaf] at hr <;> try exact hr.elim
      · rename_i l
        obtain ⟨⟨p, q, hp, -, hs⟩, hlen⟩ := hr
        rw [hc] at hp
        cases hp
        exact ⟨l, hlen, by simp [apLeaf], .inr ⟨p, q, rfl, hs⟩⟩
      · rw [hc] at hr
        cases hr
        exact ⟨[], Nat.zero_le _, by simp [apLeaf, hv], .inl ⟨rfl, rfl⟩⟩
    obtain ⟨l, hlen, hap, hx⟩ := hX
    rw [hap] at hl hq
    -- the variable begins as the empty text
    refine wp_seq (wp_reg (wl_assign_c (wpList_nil ?_)))
    have hf2 := hf1.put v1 (.string ⟨#[]⟩) (.inr ⟨d3, .inl d4⟩)
    have hv2 : aget (a1.put (some v1) (.string ⟨#[]⟩)) v1 = .string ⟨#[]⟩ := aget_put_same _ _ _ (by rw [hst1.size]; omega)
    have hu2 : aget (a1.put (some v1) (.string ⟨#[]⟩)) u = x := (aget_put_other _ _ _ _ (by omega)).trans hh1.head
    generalize a1.put (some v1) (.string ⟨#[]⟩) = a2 at hf2 hv2 hu2
    have hs2 : a2.tmps.size = nt := hf2.size.trans hst.size
    -- the end: from a frame in which v1 holds the text
    have fin : ∀ a3, Fr N lo t nt a a3 → aget a3 v1 = .string ⟨l.toArray⟩ → ((Code.region r5 #[⟨some (t1 + 7), .move (.tmp v1), y10, p10, e10, none⟩, ⟨some v2, .assign (.tmp (t1 + 7)), y11, p11, e11, none⟩] false).seq c1).wp P Q a3 w := by
      intro a3 hf3 hv3
      have hs3 : a3.tmps.size = nt := hf3.size.trans hst.size
      refine wp_seq (reg_copy (x0 := nt) (lo := lo) (N := N) (t := t) hs3 hv3 ⟨q3, by omega, by omega, d5, d6⟩ fun a4 hf4 hx4 => ?_)
      have hf34 := hf3.trans hf4
      refine h1 w0 l hlen a4 w bs Q (hst.fr hf34 hD) (((hh.tail).fr hk (hf34.to1 hD)).cons hx4) hl fun a5 w5 hs5 hf5 => hq a5 w5 hs5 ((hf34.to1 hD).trans (hf5.mono d9 d10))
    refine wp_seq (wp_seq (wp_reg ?_))
    refine wl_move hu2 ?_
    rcases hx with ⟨rfl, rfl⟩ | ⟨p, q, rfl, hcell⟩
    · refine wl_bin (r := .bool false) (aget_put_same _ _ _ (by rw [hs2]; omega)) rfl (by rw [run_neq_pointer_nil _ _ _ hT2]; try rfl) ?_
      have hf3 := (hf2.put (t1 + 2) (.pointer none) (.inr ⟨by omega, .inr (by omega)⟩)).put (t1 + 3) (.bool false) (.inr ⟨by omega, .inr (by omega)⟩)
      refine wpList_nil (wp_cond_false (aget_put_same _ _ _ (by simp only [size_put, hs2]; omega)) (wp_skip (fin _ hf3 ?_)))
      rw [aget_put_other _ _ _ _ (by omega), aget_put_other _ _ _ _ (by omega)]
      exact hv2
    · refine wl_bin (r := .bool true) (aget_put_same _ _ _ (by rw [hs2]; omega)) rfl (by rw [run_neq_pointer_nil _ _ _ hT2]; try rfl) ?_
      have hf3 := (hf2.put (t1 + 2) (.pointer (some ⟨p, q, none⟩)) (.inr ⟨by omega, .inr (by omega)⟩)).put (t1 + 3) (.bool true) (.inr ⟨by omega, .inr (by omega)⟩)
      have hu3 : aget ((a2.put (some (t1 + 2)) (.pointer (some ⟨p, q, none⟩))).put (some (t1 + 3)) (.bool true)) u = .pointer (some ⟨p, q, none⟩) := by
        rw [aget_put_other _ _ _ _ (by omega), aget_put_other _ _ _ _ (by omega)]
        exact hu2
      have hb3 : aget ((a2.put (some (t1 + 2)) (.pointer (some ⟨p, q, none⟩))).put (some (t1 + 3)) (.bool true)) (t1 + 3) = .bool true := aget_put_same _ _ _ (by simp only [size_put, hs2]; omega)
      generalize (a2.put (some (t1 + 2)) (.pointer (some ⟨p, q, none⟩))).put (some (t1 + 3)) (.bool true) = a3 at hf3 hu3 hb3
      have hs3 : a3.tmps.size = nt := hf3.size.trans hst.size
      refine wpList_nil (wp_cond_true hb3 (wp_reg ?_))
      refine wl_move hu3 ?_
      refine wl_nilCheck (aget_put_same _ _ _ (by rw [hs3]; omega)) ?_
      refine wl_load hU (aget_put_same _ _ _ (by simp only [size_put, hs3]; omega)) (hst.cell hcell) ?_
      refine wl_assign (aget_put_same _ _ _ (by simp only [size_put, hs3]; omega)) ?_
      refine wpList_nil (fin _ ((((hf3.put _ _ (.inr ⟨by omega, .inr (by omega)⟩)).put _ _ (.inr ⟨by omega, .inr (by omega)⟩)).put _ _ (.inr ⟨by omega, .inr (by omega)⟩)).put _ _ (.inr ⟨d3, .inl d4⟩)) (aget_put_same _ _ _ (by simp only [size_put, hs3]; omega)))
  · rw [decide_eq_false hv] at hx1
    refine wp_cond_false hx1 ?_
    exact h2 hv w0 b o x v hr hc a1 w bs Q hst1 hh1 hl fun a2 w2 hs2 hf2 => hq a2 w2 hs2 ((hf1.to1 hD).trans hf2)
end
theorem strC_false (w0 : World) (l : List UInt8) (h2 : l.length ≤ strMax false) : AppAt Tryz.prog 161 (.string ⟨l.toArray⟩) (lenS false l.length ++ l) w0 := by
  have h := (appendString ⟨l.toArray⟩ (by rw [str_size]; simp [strMax] at h2; omega)).at (w0 := w0)
  simpa [lenS, str_size] using h
theorem strC_true (w0 : World) (l : List UInt8) (h2 : l.length ≤ strMax true) : AppAt Tryz.prog 160 (.string ⟨l.toArray⟩) (lenS true l.length ++ l) w0 := by
  have h := (appendCompactString ⟨l.toArray⟩ (by rw [str_size]; simp [strMax] at h2; omega)).at (w0 := w0)
  simpa [lenS, str_size] using h
end Go.Proofs.YtfchajjllhndlabGreatDoor

/- Reading a text that may be null from a version on: ahead of that version a text lies in a cell of its own. -/
namespace Go.Proofs.YtfchajjllhndlabGreatDoor
open Go Go.RowKit
set_option linter.unusedVariables false

section
variable {RT : RTags} {P : Program} {N nt gE : Nat} {E : Value} {K : Slots} {lo t : Nat} {ver : Int} {flex : Bool}
/-- The code c reads a text into the cell that slot v leads to. -/
def RdT (P : Program) (N nt gE : Nat) (E : Value) (flex : Bool) (K : Slots) (lo t bp : Nat) (c : Code) (v : Nat) : Prop :=
  ∀ (O : List Nat) (rb p T : Nat) (a : Act) (w : World) (x : Value) (st : Option (List UInt8)) (Q : Exit → Act → World → Prop), a.tmps.size = nt → Holds ((bp, .pointer (some ⟨rb, 0, none⟩)) :: K) a → aget a v = .pointer (some ⟨p, 0, none⟩) → RSt gE E O w rb p [x] T st →
    (∀ a' w' y, RSt gE E O w' rb p [y] T ((st.bind (rdStr flex)).map (·.2)) → Fr N lo t nt a a' → Keeps [rb, p] w w' → (∀ g r, st.bind (rdStr flex) = some (g, r) → LV O w' flex y .str g) → Q .normal a' w') → c.wp P Q a w
theorem rdT_call {bp v t1 F Us r ty1 ty2 : Nat} {p1 p2 : String} {e1 e2 : Array Edge} {at_ : Array TypeId} (he : Enters P F) (hC : LeafRd P ver flex F .str) (hU : OneCell P Us) (hD : Dims N nt lo t) (hd : t ≤ t1 ∧ t1 < nt ∧ v < lo) :
    RdT P N nt gE E flex K lo t bp (Code.region r #[⟨some t1, .call { callee := .value (.func F), args := #[.tmp bp], argTypes := at_ }, ty1, p1, e1, none⟩, ⟨none, .store Us (.tmp v) (.tmp t1), ty2, p2, e2, none⟩] false) v := by
  intro O rb p T a w x st Q hN hh hv hst hq
  obtain ⟨d1, d2, d3⟩ := hd
  have g2 := hD.dLo; have g3 := hD.dT; have g4 := hD.dN
  refine wp_reg ?_
  refine wl_call (R := RdPost (rdLeaf ver flex .str) (fun O w v g => LV O w flex v .str g) One O rb w st) he ?_ ?_
  · simp only [List.map_toArray, List.map_cons, List.map_nil, aget_eval]
    rw [hh.head]
    exact hC O rb w st hst.rbO hst.lt hst.rdr
  rintro e w' ⟨y, rfl, hr, hk, hbad, hgood⟩
  refine ⟨y, rfl, ?_⟩
  have hone : One y := by
    cases hx : st.bind (rdLeaf ver flex .str) with
    | none => exact hbad hx
    | some q => exact (hgood q.1 q.2 hx).one
  have hst1 := hst.call hr hk
  refine wl_store (w' := w'.setCell ⟨p, 0, none⟩ y) ?_ ?_
  · rw [aget_eval, aget_eval, aget_put_same _ _ _ (by omega), aget_put_other _ _ _ _ (by omega), hv]
    exact run_store_blk hU hst1.blk (by simp) hone
  refine wpList_nil (hq _ _ y (hst1.store 0 y) ((Fr.refl N lo t nt a).put _ _ (by omega)) ((keeps_rb hk).trans (keeps_b w' 0 y)) fun g r hx => ?_)
  exact (hgood g r hx).keeps ((Keeps.refl O w').setCell hst1.bO _)
theorem rdT_flag {bp v sf t1 r ty1 : Nat} {p1 : String} {e1 : Array Edge} {c1 c2 : Code} {fl : Bool} (hk : KOK N lo t ((bp, .int .i64 0) :: K)) (hf : (sf, Value.bool fl) ∈ K) (hD : Dims N nt lo t) (hd : t ≤ t1 ∧ t1 < nt ∧ v < lo ∧ v ≠ 1)
    (h1 : fl = true → RdT P N nt gE E flex K lo t bp c1 v) (h2 : fl = false → RdT P N nt gE E flex K lo t bp c2 v) :
    RdT P N nt gE E flex K lo t bp ((Code.region r #[⟨some t1, .move (.tmp sf), ty1, p1, e1, none⟩] false).seq (.cond (.tmp t1) c1 c2)) v := by
  intro O rb p T a w x st Q hN hh hv hst hq
  have g2 := hD.dLo; have g3 := hD.dT; have g4 := hD.dN
  have hk' : KOK N lo t ((bp, .pointer (some ⟨rb, 0, none⟩)) :: K) := fun p hp => by
    simp only [List.mem_cons] at hp
    rcases hp with rfl | hp
    · exact hk (bp, .int .i64 0) (by simp)
    · exact hk p (by simp [hp])
  refine wp_seq (reg_flag (x0 := nt) (lo := lo) hN (hh _ (List.mem_cons_of_mem _ hf)) ⟨hD.dT, hd.1, hd.2.1, hD.dLo⟩ fun a' hfr hx => ?_)
  have hv' : aget a' v = .pointer (some ⟨p, 0, none⟩) := (hfr.same v (by omega) (.inl (by omega))).trans hv
  cases fl
  · exact wp_cond_false hx (h2 rfl O rb p T a' w x st Q (hfr.size.trans hN) (hh.frR hk' hD hfr) hv' hst fun a2 w2 y g1 g2 g3 g4 => hq a2 w2 y g1 (hfr.trans g2) g3 g4)
  · exact wp_cond_true hx (h1 rfl O rb p T a' w x st Q (hfr.size.trans hN) (hh.frR hk' hD hfr) hv' hst fun a2 w2 y g1 g2 g3 g4 => hq a2 w2 y g1 (hfr.trans g2) g3 g4)

theorem rdL_from {bp u v sv t1 T U Us r1 r2 r3 y1 y2 y3 y4 lo' : Nat} {q1 q2 q3 q4 : String} {g1 g2 g3 g4 : Array Edge} {n : Int} {c1 c2 : Code} (hk : KOK N lo t ((bp, .int .i64 0) :: K)) (hsv : (sv, Value.int .i16 ver) ∈ K)
    (hA : ∀ w : World, (Instr.alloc Us true (.tuple #[])).run P w = .ok (.pointer (some ⟨w.heap.size, 0, none⟩)) (w.alloc (.cells #[.string ⟨#[]⟩] Us))) (hD : Dims N nt lo t)
    (hd : t ≤ t1 ∧ t1 + 1 < nt ∧ lo ≤ v ∧ v < N ∧ lo ≤ u ∧ u < N ∧ u ≠ v ∧ v < lo' ∧ lo ≤ lo' ∧ lo' ≤ N)
    (h1 : RdT P N nt gE E flex K lo' t bp c1 v) (h2 : ¬ ver < n → RdL P N nt gE E ver flex K lo t bp c2 u (.nstrFrom n)) :
    RdL P N nt gE E ver flex K lo t bp ((Code.region r1 #[⟨some t1, .move (.tmp sv), y1, q1, g1, none⟩, ⟨some (t1 + 1), .binOp .lss T (.tmp t1) (.const (.int .i16 n)) U, y2, q2, g2, none⟩] false).seq (.cond (.tmp (t1 + 1))
      ((Code.region r2 #[⟨some v, .alloc Us, y3, q3, g3, none⟩] false).seq (c1.seq (Code.region r3 #[⟨some u, .assign (.tmp v), y4, q4, g4, none⟩] false))) c2)) u (.nstrFrom n) := by
  intro O rb b Tb a w cs st Q hN hh hst hq
  obtain ⟨d1, d2, d3, d4, d5, d6, d7, d8, d9, d10⟩ := hd
  have x1 := hD.dOne; have x2 := hD.dLo; have x3 := hD.dT; have x4 := hD.dN
  have hk' : KOK N lo t ((bp, .pointer (some ⟨rb, 0, none⟩)) :: K) := fun p hp => by
    simp only [List.mem_cons] at hp
    rcases hp with rfl | hp
    · exact hk (bp, .int .i64 0) (by simp)
    · exact hk p (by simp [hp])
  refine wp_seq (reg_cmp (x0 := nt) (lo := lo) (b := decide (ver < n)) hN (hh _ (List.mem_cons_of_mem _ hsv)) ⟨x3, d1, d2, x2⟩ (fun w => by rw [run_cmp_i16]) fun a1 hf1 hx1 => ?_)
  have hN1 := hf1.size.trans hN
  have hh1 := hh.frR hk' hD hf1
  by_cases hv : ver < n
  · rw [decide_eq_true hv] at hx1
    refine wp_cond_true hx1 ?_
    refine wp_seq (wp_reg ?_)
    refine wl_value (v := .pointer (some ⟨w.heap.size, 0, none⟩)) (w' := w.alloc (.cells #[.string ⟨#[]⟩] Us)) rfl (by simp [execOp, hA]) ?_
    refine wpList_nil ?_
    have hf2 : Fr N lo t nt a1 (a1.put (some v) (.pointer (some ⟨w.heap.size, 0, none⟩))) := (Fr.refl N lo t nt a1).put _ _ (by omega)
    have hv2 : aget (a1.put (some v) (.pointer (some ⟨w.heap.size, 0, none⟩))) v = .pointer (some ⟨w.heap.size, 0, none⟩) := aget_put_same _ _ _ (by omega)
    generalize a1.put (some v) (.pointer (some ⟨w.heap.size, 0, none⟩)) = a2 at *
    have hN2 := hf2.size.trans hN1
    have hh2 := hh1.frR hk' hD hf2
    have hka : Keeps [] w (w.alloc (.cells #[.string ⟨#[]⟩] Us)) := (Keeps.refl [] w).alloc _
    have hgl := World.block_lt_of_cell? w _ hst.glob
    have hrbl := hst.lt rb hst.rbO
    have hinner : RSt gE E (w.heap.size :: O) (w.alloc (.cells #[.string ⟨#[]⟩] Us)) rb w.heap.size [.string ⟨#[]⟩] Us st := by
      refine ⟨(hst.rdr.open (Nat.le_refl _)).other hka (by simp) (by simp), Blk.alloc_new w [.string ⟨#[]⟩] Us, List.mem_cons_of_mem _ hst.rbO, List.mem_cons_self .., by omega, fun k hk => ?_, ?_, ?_⟩
      · rcases List.mem_cons.1 hk with rfl | hk
        · simp
        · exact Nat.lt_of_lt_of_le (hst.lt k hk) hka.size
      · exact (World.cell?_of_block (hka.block gE hgl (by simp))).trans hst.glob
      · intro hm
        rcases List.mem_cons.1 hm with e | hm
        · exact Nat.lt_irrefl _ (e ▸ hgl)
        · exact hst.gO hm
    refine wp_seq (h1 (w.heap.size :: O) rb w.heap.size Us a2 _ _ st _ hN2 hh2 hv2 hinner fun a3 w3 y hst3 hf3 hk3 hlv => ?_)
    have hv3 : aget a3 v = .pointer (some ⟨w.heap.size, 0, none⟩) := (hf3.same v (by omega) (.inl (by omega))).trans hv2
    have hf3' : Fr N lo t nt a2 a3 := hf3.mono (by omega) (Nat.le_refl _)
    have e : rdLeaf ver flex (.nstrFrom n) = rdStr flex := if_pos hv
    obtain ⟨hback, hkb⟩ := RSt.back hst (Nat.le_refl _) (hka.mono (O' := [rb]) (by simp)) hk3 hst3
    have hkrb : Keeps [rb] w w3 := ((hka.mono (O' := [w.heap.size, rb]) (by simp)).trans (hk3.mono (by simp))).close (Nat.le_refl _)
    refine wp_reg (wl_assign hv3 (wpList_nil ?_))
    have hN3 := hf3.size.trans hN2
    refine hq _ w3 (.pointer (some ⟨w.heap.size, 0, none⟩)) (aget_put_same _ _ _ (by omega)) ⟨rfl, rfl⟩ (by rw [e]; exact hback) ((((hf1.trans hf2).trans hf3').put _ _ (by omega))) hkrb fun g r hx => ?_
    rw [e] at hx
    have hl := hlv g r hx
    cases g <;> simp only [LV] at hl <;> try exact hl.elim
    rename_i l
    refine ⟨⟨w.heap.size, 0, rfl, fun hm => Nat.lt_irrefl _ (hst.lt _ hm), ?_⟩, hl.2⟩
    have := hst3.blk.cell_some (i := 0) rfl
    rw [this, hl.1]
  · rw [decide_eq_false hv] at hx1
    exact wp_cond_false hx1 (h2 hv O rb b Tb a1 w cs st Q hN1 hh1 hst fun a' w' x g1 g2 g3 g4 g5 g6 => hq a' w' x g1 g2 g3 (hf1.trans g4) g5 g6)
end
end Go.Proofs.YtfchajjllhndlabGreatDoor
