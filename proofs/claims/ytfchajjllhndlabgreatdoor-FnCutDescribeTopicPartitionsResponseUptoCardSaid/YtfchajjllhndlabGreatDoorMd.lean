/- Shared texts of these proofs, laid together by merge.py: Ro, Rp, Appb, Appc, Rq. -/
import Derived.Test.YtfchajjllhndlabGreatDoorMc
import Derived.Test.YtfchajjllhndlabGreatDoorMb
import Derived.Laws.CopyOwn
set_option linter.unusedVariables false
/- The code that reads a list, whole. -/
namespace Go.Proofs.YtfchajjllhndlabGreatDoor
open Go Go.RowKit
set_option linter.unusedVariables false

section
variable {RT : RTags} {P : Program} {N nt gE : Nat} {E : Value} {K : Slots} {lo t : Nat} {ver : Int} {flex : Bool}
/-- 'a = a[:0]' of a slice without things or room. -/
theorem wl_slice0 {w : World} {ops : Array Oper} {rest : List Oper} {a : Act} {Q : Exit → Act → World → Prop} {d s T e : Nat} {ty : TypeId} {pos : String} {af : Array Edge} {ad : Option Addr} (hT : P.underlying T = some (.slice e)) (hE : ∃ i, P.info? e = some i) (hs : aget a s = .slice ad 0 0)
    (h : wpList P ops Q rest (a.put (some d) (.slice ad 0 0)) w) : wpList P ops Q (⟨some d, .slice T (.tmp s) none (some (.const (.int .i64 0))) none, ty, pos, af, none⟩ :: rest) a w := by
  obtain ⟨i, hi⟩ := hE
  refine wl_value (v := .slice ad 0 0) (w' := w) rfl ?_ h
  have e0 : a.eval (.const (.int .i64 0)) = .int .i64 0 := rfl
  cases ad <;> simp [execOp, aget_eval, hs, e0, Instr.sliceAt, Instr.slice, Instr.sliceBounds, run_sliceBound, run_underlying hT, sizeOf, typeInfo, hi]
/-- What is known of the type of a list's things. -/
structure ElT (P : Program) (T e esz : Nat) (sch : Sch) : Prop where
  under : P.underlying T = some (.slice e)
  info : ∃ (i : TypeInfo) (z : Value), P.info? e = some i ∧ i.zero = some z ∧ i.size = esz ∧ z.cells.size = esz ∧ i.bytes ≤ 100000 ∧ Fresh z.cells.toList 0 sch
/-- 'if l > 0 { a = append(a, make([]T, l)...) }'. -/
theorem reg_make {u l t1 t2 T I e esz U1 U2 r r2 ty1 ty2 ty3 ty4 ty5 ty6 : Nat} {p1 p2 p3 p4 p5 p6 : String} {e1 e2 e3 e4 e5 e6 : Array Edge} {sch : Sch} {a : Act} {w : World} {ad : Option Addr} {n : Int} {Q : Exit → Act → World → Prop}
    (hT : ElT P T e esz sch) (hI : P.underlying I = some (.int .i32)) (hesz : 0 < esz) (htop : top sch ≤ esz) (hD : Dims N nt lo t) (hd : t ≤ t1 ∧ t1 + 1 < nt ∧ t ≤ t2 ∧ t2 + 2 < nt ∧ lo ≤ u ∧ u < N ∧ l < N)
    (hN : a.tmps.size = nt) (hu : aget a u = .slice ad 0 0) (hl : aget a l = .int .i32 n) (hn : n ≤ 2147483647)
    (hq0 : ∀ a', n ≤ 0 → Fr N lo t nt a a' → (∀ s, s ≠ u → s < N → aget a' s = aget a s) → aget a' u = .slice ad 0 0 → Q .normal a' w)
    (hq1 : ∀ a' cs cap, 0 < n → Fr N lo t nt a a' → (∀ s, s ≠ u → s < N → aget a' s = aget a s) → aget a' u = .slice (some ⟨w.heap.size, 0, none⟩) n.toNat cap → n.toNat ≤ cap → cap ≤ 9223372036854775807 → (∀ j, j < n.toNat → Fresh cs (j * esz) sch) → Q .normal a' (w.drew.alloc (.cells cs.toArray e))) :
    ((Code.region r #[⟨some t1, .move (.tmp l), ty1, p1, e1, none⟩, ⟨some (t1 + 1), .binOp .gtr U1 (.tmp t1) (.const (.int .i32 0)) U2, ty2, p2, e2, none⟩] false).seq
      (.cond (.tmp (t1 + 1)) (Code.region r2 #[⟨some t2, .move (.tmp u), ty3, p3, e3, none⟩, ⟨some (t2 + 1), .move (.tmp l), ty4, p4, e4, none⟩,
        ⟨some (t2 + 2), .call { callee := .builtin .append, args := #[.tmp t2, .tmp (t2 + 1)], argTypes := #[T, I] }, ty5, p5, e5, none⟩, ⟨some u, .assign (.tmp (t2 + 2)), ty6, p6, e6, none⟩] false) .skip)).wp P Q a w := by
  obtain ⟨d1, d2, d3, d4, d5, d6, d7⟩ := hd
  have g2 := hD.dLo; have g3 := hD.dT; have g4 := hD.dN
  refine wp_seq (wp_reg ?_)
  refine wl_move hl ?_
  refine wl_bin (r := .bool (decide (0 < n))) (x := .int .i32 n) (aget_put_same _ _ _ (by omega)) (eqGuard_at_int ..) (by simp [binOp, Op.intCmp]) ?_
  refine wpList_nil ?_
  have hf : Fr N lo t nt a ((a.put (some t1) (.int .i32 n)).put (some (t1 + 1)) (.bool (decide (0 < n)))) := ((Fr.refl N lo t nt a).put _ _ (by omega)).put _ _ (by omega)
  have hx : aget ((a.put (some t1) (.int .i32 n)).put (some (t1 + 1)) (.bool (decide (0 < n)))) (t1 + 1) = .bool (decide (0 < n)) := aget_put_same _ _ _ (by simp only [size_put]; omega)
  have hs : ∀ s, s < N → aget ((a.put (some t1) (.int .i32 n)).put (some (t1 + 1)) (.bool (decide (0 < n)))) s = aget a s := fun s h => by rw [aget_put_other _ _ _ s (by omega), aget_put_other _ _ _ s (by omega)]
  generalize ((a.put (some t1) (.int .i32 n)).put (some (t1 + 1)) (.bool (decide (0 < n)))) = a1 at *
  by_cases h0 : 0 < n
  · rw [decide_eq_true h0] at hx
    refine wp_cond_true hx (wp_reg ?_)
    have hN1 := hf.size.trans hN
    obtain ⟨i, z, hi, hz, hsz, hzs, hby, hfr⟩ := hT.info
    obtain ⟨m, rfl⟩ : ∃ m : Nat, n = m := ⟨n.toNat, by omega⟩
    rw [Int.toNat_natCast] at hq1
    have hrun := run_append_zeros (P := P) w T I ty5 e i z .i32 .i32 hT.under hI hi hz ad m (by omega) (by omega) (by omega) (by
      have := Nat.mul_le_mul (show m ≤ 2147483647 by omega) hby
      omega)
    refine wl_move (v := .slice ad 0 0) ((hs u d6).trans hu) ?_
    refine wl_move (v := .int .i32 (m : Nat)) (by rw [aget_put_other _ _ _ _ (by omega)]; exact (hs l d7).trans hl) ?_
    refine Lib.wpList_append_run _ rfl _ _ T I rfl (.slice ad 0 0) (.int .i32 (m : Nat)) ?_ ?_ _ _ hrun ?_
    · rw [aget_eval, aget_put_other _ _ _ _ (by omega)]; exact aget_put_same _ _ _ (by omega)
    · exact aget_put_same _ _ _ (by simp only [size_put]; omega)
    have hge := grownCap_ge w m 0 e
    have hcm : grownCap w m 0 e ≤ maxLen := grownCap_le_maxLen w m 0 e (by unfold maxLen; omega)
    unfold maxLen at hcm
    refine wl_assign (aget_put_same _ _ _ (by simp only [size_put]; omega)) ?_
    refine wpList_nil ?_
    have e0 : Builtin.zeroCells z.cells m ++ Builtin.zeroCells z.cells (grownCap w m 0 e - m) = (Builtin.zeroCells z.cells m ++ Builtin.zeroCells z.cells (grownCap w m 0 e - m)).toList.toArray := by simp
    rw [e0]
    refine hq1 _ _ (grownCap w m 0 e) h0 (hf.trans (((((Fr.refl N lo t nt a1).put _ _ (by omega)).put _ _ (by omega)).put _ _ (by omega)).put _ _ (by omega))) (fun s h1 h2 => ?_) (aget_put_same _ _ _ (by simp only [size_put]; omega)) hge (by simpa using hcm) (fun j hj => ?_)
    · rw [aget_put_other _ _ _ s (by omega), aget_put_other _ _ _ s (by omega), aget_put_other _ _ _ s (by omega), aget_put_other _ _ _ s (by omega)]
      exact hs s h2
    · rw [← hzs]
      exact made_fresh hfr (by omega) hj
  · rw [decide_eq_false h0] at hx
    exact wp_cond_false hx (wp_skip (hq0 a1 (by omega) hf (fun s _ h => hs s h) ((hs u d6).trans hu)))

/-- Back from the block of the things to the part. -/
theorem RSt.back {O : List Nat} {w w1 w2 : World} {rb b p T Tp : Nat} {cs csp : List Value} {st st' : Option (List UInt8)} (h : RSt gE E O w rb b cs T st) (hp : w.heap.size ≤ p) (h1 : Keeps [rb] w w1) (hk : Keeps [rb, p] w1 w2) (h2 : RSt gE E (p :: O) w2 rb p csp Tp st') : RSt gE E O w2 rb b cs T st' ∧ Keeps [rb, b] w w2 := by
  have hb : b < w.heap.size := h.lt b h.bO
  have hbp : b ≠ p := by omega
  have hkk : Keeps [rb] w w2 := (h1.mono (O' := [p, rb]) (by simp)).trans (hk.mono (by simp)) |>.close hp
  exact ⟨⟨h2.rdr.mono (fun k hk => List.mem_cons_of_mem _ hk), h.blk.keeps hkk (by simpa using h.ne), h.rbO, h.bO, h.ne, hlt_on h.lt hkk, h2.glob, h.gO⟩, keeps_rb hkk⟩

/-- The room, the loop, the store: behind the count. -/
theorem rd_tail {s bp rs u l i v t1 t2 t3 t4 t5 t6 t7 t8 t9 F F2 T T2 I e T' k U off esz lo' t' B B' r1 r2 r3 r4 r5 r6 r7 r8 r9 r10 UN U1 U2 U3 U4 U5 U6 : Nat}
    {y1 y2 y3 y4 y5 y6 y7 y8 y9 y10 y11 y12 y13 y14 y15 y16 y17 y18 y19 y20 y21 y22 y23 y24 y25 y26 y27 : Nat} {q1 q2 q3 q4 q5 q6 q7 q8 q9 q10 q11 q12 q13 q14 q15 q16 q17 q18 q19 q20 q21 q22 q23 q24 q25 q26 q27 : String} {g1 g2 g3 g4 g5 g6 g7 g8 g9 g10 g11 g12 g13 g14 g15 g16 g17 g18 g19 g20 g21 g22 g23 g24 g25 g26 g27 : Array Edge}
    {at_ at2 : Array TypeId} {c : Code} {nul : Option Int} {sch : Sch}
    (hRT : RTKeep RT) (hRM : RTMono RT) (hk : KOK N lo t ((s, .int .i64 0) :: (bp, .int .i64 0) :: K)) (hD : Dims N nt lo t) (hD' : Dims N nt lo' t')
    (heO : Enters P F) (hO : OkC P F) (heC : Enters P F2) (hC : CompleteC P F2 gE E) (hT : ElT P T e esz sch) (hT2 : ElT P T2 e esz sch) (hI : P.underlying I = some (.int .i32)) (hFA : FieldAt P T' k off) (hU : OneCell P U) (hesz : 0 < esz) (htop : top sch ≤ esz)
    (hd1 : t ≤ t1 ∧ t1 + 1 < nt ∧ t2 < nt ∧ rs < nt ∧ bp < lo ∧ t ≤ t3 ∧ t3 + 1 < nt ∧ t ≤ t4 ∧ t4 + 1 < nt ∧ t ≤ t5 ∧ t5 + 2 < nt ∧ t ≤ t6 ∧ t6 + 2 < nt ∧ t ≤ t7 ∧ t7 + 1 < nt ∧ t ≤ t8 ∧ t8 < nt ∧ t ≤ t9 ∧ t9 + 3 < nt)
    (hd2 : lo ≤ u ∧ u < N ∧ lo ≤ l ∧ l < N ∧ lo ≤ i ∧ i < N ∧ lo ≤ v ∧ v < N ∧ u < lo' ∧ l < lo' ∧ i < lo' ∧ lo ≤ lo' ∧ t ≤ t' ∧ u ≠ i ∧ l ≠ i ∧ u ≠ l) (hB : B ≠ B')
    (hEl : RdEl RT P N nt gE E ver flex K lo' t' u i bp rs c esz sch)
    (O : List Nat) (rb b o Tb : Nat) (a : Act) (w : World) (cs : List Value) (st : Option (List UInt8)) (Q : Exit → Act → World → Prop) (ad : Option Addr) (n : Int)
    (hN : a.tmps.size = nt) (hh : Holds ((s, .pointer (some ⟨b, o, none⟩)) :: (bp, .pointer (some ⟨rb, 0, none⟩)) :: K) a) (hst : RSt gE E O w rb b cs Tb ((st.bind (rdLen flex)).map (·.2))) (hlt : o + off < cs.length)
    (hu : aget a u = .slice ad 0 0) (hl : aget a l = .int .i32 n) (hn : ∀ m r, st.bind (rdLen flex) = some (m, r) → m = n) (hnul : nul.isSome = true → n ≤ 0 → (ad.isSome = true ↔ ¬ (n < 0 ∧ nullAt nul ver = true))) (had : nul.isSome = false → ad = none ∨ True)
    (hq : ∀ a' w' cs', RSt gE E O w' rb b cs' Tb ((st.bind (rd ver flex (.list nul esz sch))).map (·.2)) → Fr N lo t nt a a' → Keeps [rb, b] w w' → SameOut cs cs' (o + off) (o + (off + 1)) → (∀ v r, st.bind (rd ver flex (.list nul esz sch)) = some (v, r) → Rep RT O w' ver flex (.list nul esz sch) b (o + off) v) → Q .normal a' w')
    (hr : ∀ a' w', st.bind (rd ver flex (.list nul esz sch)) = none → a'.tmps.size = nt → a'.defers = a.defers → aget a' rs = E → Keeps [rb, b] w w' → Q .ret a' w') :
    (((Code.region r1 #[⟨some t1, .call { callee := .value (.func F), args := #[.tmp bp], argTypes := at_ }, y1, q1, g1, none⟩, ⟨some (t1 + 1), .unOp .not UN (.tmp t1), y2, q2, g2, none⟩] false).seq
      (.cond (.tmp (t1 + 1)) ((Code.region r2 #[⟨some t2, .call { callee := .value (.func F2), args := #[.tmp bp], argTypes := at2 }, y3, q3, g3, none⟩, ⟨some rs, .assign (.tmp t2), y4, q4, g4, none⟩] false).seq .ret) .skip)).seq
    ((Code.region r3 #[⟨some t3, .move (.tmp u), y5, q5, g5, none⟩, ⟨some (t3 + 1), .slice T2 (.tmp t3) none (some (.const (.int .i64 0))) none, y6, q6, g6, none⟩, ⟨some u, .assign (.tmp (t3 + 1)), y7, q7, g7, none⟩] false).seq
    (((Code.region r4 #[⟨some t4, .move (.tmp l), y8, q8, g8, none⟩, ⟨some (t4 + 1), .binOp .gtr U1 (.tmp t4) (.const (.int .i32 0)) U2, y9, q9, g9, none⟩] false).seq
      (.cond (.tmp (t4 + 1)) (Code.region r5 #[⟨some t5, .move (.tmp u), y10, q10, g10, none⟩, ⟨some (t5 + 1), .move (.tmp l), y11, q11, g11, none⟩,
        ⟨some (t5 + 2), .call { callee := .builtin .append, args := #[.tmp t5, .tmp (t5 + 1)], argTypes := #[T, I] }, y12, q12, g12, none⟩, ⟨some u, .assign (.tmp (t5 + 2)), y13, q13, g13, none⟩] false) .skip)).seq
    (((Code.region r6 #[⟨some i, .assign (.const (.int .i32 0)), y14, q14, g14, none⟩] false).seq (.block B (.loop
      (((Code.region r7 #[⟨some t6, .move (.tmp i), y15, q15, g15, none⟩, ⟨some (t6 + 1), .move (.tmp l), y16, q16, g16, none⟩, ⟨some (t6 + 2), .binOp .lss U3 (.tmp t6) (.tmp (t6 + 1)) U4, y17, q17, g17, none⟩] false).seq (.cond (.tmp (t6 + 2)) .skip (.exit B))).seq
        ((Code.block B' c).seq (.region r8 #[⟨some t7, .move (.tmp i), y18, q18, g18, none⟩, ⟨some (t7 + 1), .binOp .add U5 (.tmp t7) (.const (.int .i32 1)) U6, y19, q19, g19, none⟩, ⟨some i, .assign (.tmp (t7 + 1)), y20, q20, g20, none⟩] false)))))).seq
    ((Code.region r9 #[⟨some t8, .move (.tmp u), y21, q21, g21, none⟩, ⟨some v, .assign (.tmp t8), y22, q22, g22, none⟩] false).seq
      (.region r10 #[⟨some t9, .move (.tmp s), y23, q23, g23, none⟩, ⟨some (t9 + 1), .move (.tmp v), y24, q24, g24, none⟩, ⟨some (t9 + 2), .nilCheck (.tmp t9), y25, q25, g25, none⟩, ⟨some (t9 + 3), .fieldAddr T' (.tmp (t9 + 2)) k, y26, q26, g26, none⟩,
        ⟨none, .store U (.tmp (t9 + 3)) (.tmp (t9 + 1)), y27, q27, g27, none⟩] false)))))).wp P Q a w := by
  obtain ⟨c1, c2, c3, c4, c5, c6, c7, c8, c9, c10, c11, c12, c13, c14, c15, c16, c17, c18, c19⟩ := hd1
  obtain ⟨d1, d2, d3, d4, d5, d6, d7, d8, d9, d10, d11, d12, d13, d14, d15, d16⟩ := hd2
  have x1 := hD.dOne; have x2 := hD.dLo; have x3 := hD.dT; have x4 := hD.dN
  have tot := rd_list ver flex nul esz sch st
  refine wp_seq (reg_ok heO hO heC hC hN hh.tail.head hst.rdr hst.glob hD ⟨c1, c2, c3, c4, by omega, by omega⟩ (fun a1 hs1 hf1 hkeep1 => ?_) (fun a1 hs1 h1 h2 h3 => ?_))
  rotate_left
  · refine hr a1 w ?_ h1 h2 h3 (Keeps.refl _ _)
    rw [tot]
    cases hx : st.bind (rdLen flex) with
    | none => rfl
    | some q => rw [hx] at hs1; cases hs1
  obtain ⟨r, hlen⟩ : ∃ r, st.bind (rdLen flex) = some (n, r) := by
    cases hx : st.bind (rdLen flex) with
    | none => rw [hx] at hs1; cases hs1
    | some q =>
      refine ⟨q.2, ?_⟩
      rw [← hn q.1 q.2 hx]
  rw [hlen] at hst tot
  rw [Option.bind_some] at tot
  dsimp only at tot
  change RSt gE E O w rb b cs Tb (some r) at hst
  have hrM : r.length ≤ lim := by obtain ⟨sv, -, -, h⟩ := hst.rdr; exact h
  have hnr : n ≤ r.length := by
    cases st with
    | none => cases hlen
    | some bs => exact (out_len hlen).1
  have hn32 : n ≤ 2147483647 := by
    cases st with
    | none => cases hlen
    | some bs => exact (out_len hlen).2.2.2
  have hN1 := hf1.size.trans hN
  have hu1 : aget a1 u = .slice ad 0 0 := (hkeep1 u d2).trans hu
  have hl1 : aget a1 l = .int .i32 n := (hkeep1 l d4).trans hl
  clear hkeep1 hs1
  -- the store
  have fin : ∀ (a4 : Act) (w4 : World) (x : Value) (st4 : Option (List UInt8)), Fr N lo t nt a a4 → aget a4 u = x → One x → RSt gE E O w4 rb b cs Tb st4 → (∀ a', Fr N lo t nt a a' → Q .normal a' (w4.setCell ⟨b, o + off, none⟩ x)) →
      ((Code.region r9 #[⟨some t8, .move (.tmp u), y21, q21, g21, none⟩, ⟨some v, .assign (.tmp t8), y22, q22, g22, none⟩] false).seq
      (.region r10 #[⟨some t9, .move (.tmp s), y23, q23, g23, none⟩, ⟨some (t9 + 1), .move (.tmp v), y24, q24, g24, none⟩, ⟨some (t9 + 2), .nilCheck (.tmp t9), y25, q25, g25, none⟩, ⟨some (t9 + 3), .fieldAddr T' (.tmp (t9 + 2)) k, y26, q26, g26, none⟩,
        ⟨none, .store U (.tmp (t9 + 3)) (.tmp (t9 + 1)), y27, q27, g27, none⟩] false)).wp P Q a4 w4 := by
    intro a4 w4 x st4 hf4 hx hone hst4 hqq
    have hN4 := hf4.size.trans hN
    refine wp_seq (wp_reg ?_)
    refine wl_move hx ?_
    refine wl_assign (aget_put_same _ _ _ (by omega)) ?_
    refine wpList_nil ?_
    have hf5 : Fr N lo t nt a ((a4.put (some t8) x).put (some v) x) := hf4.trans (((Fr.refl N lo t nt a4).put _ _ (by omega)).put _ _ (by omega))
    have hh5 := hh.frR (kokR hk) hD hf5
    exact reg_store hFA hU (hf5.size.trans hN) hh5.head (aget_put_same _ _ _ (by simp only [size_put]; omega)) hone hst4.blk hlt hD ⟨c18, c19, by omega⟩ fun a' hf => hqq a' (hf5.trans hf)
  refine wp_seq (wp_reg ?_)
  refine wl_move hu1 ?_
  obtain ⟨ti, tz, hti, -⟩ := hT2.info
  refine wl_slice0 hT2.under ⟨ti, hti⟩ (aget_put_same _ _ _ (by omega)) ?_
  refine wl_assign (aget_put_same _ _ _ (by simp only [size_put]; omega)) ?_
  refine wpList_nil ?_
  have hf2 : Fr N lo t nt a (((a1.put (some t3) (.slice ad 0 0)).put (some (t3 + 1)) (.slice ad 0 0)).put (some u) (.slice ad 0 0)) := hf1.trans ((((Fr.refl N lo t nt a1).put _ _ (by omega)).put _ _ (by omega)).put _ _ (by omega))
  have hu2 : aget (((a1.put (some t3) (.slice ad 0 0)).put (some (t3 + 1)) (.slice ad 0 0)).put (some u) (.slice ad 0 0)) u = .slice ad 0 0 := aget_put_same _ _ _ (by simp only [size_put]; omega)
  have hl2 : aget (((a1.put (some t3) (.slice ad 0 0)).put (some (t3 + 1)) (.slice ad 0 0)).put (some u) (.slice ad 0 0)) l = .int .i32 n := by rw [aget_put_other _ _ _ l (by omega), aget_put_other _ _ _ l (by omega), aget_put_other _ _ _ l (by omega)]; exact hl1
  generalize (((a1.put (some t3) (.slice ad 0 0)).put (some (t3 + 1)) (.slice ad 0 0)).put (some u) (.slice ad 0 0)) = a2 at *
  clear hu1 hl1 hf1 hN1
  simp only [Exit.then]
  refine wp_seq (reg_make hT hI hesz htop hD ⟨c8, c9, c10, c11, d1, d2, d4⟩ (hf2.size.trans hN) hu2 hl2 (by omega) (fun a3 h0 hf3 hs3 hu3 => ?_) (fun a3 csp cap h0 hf3 hs3 hu3 hcap1 hcap2 hfr => ?_))
  · -- nothing to read
    have hl3 : aget a3 l = .int .i32 n := (hs3 l (by omega) d4).trans hl2
    refine wp_seq (rd_for0 hD ⟨c12, c13, d3, d4, d5, d6, d15⟩ a3 w n _ ((hf2.trans hf3).size.trans hN) h0 hl3 fun a4 hf4 hs4 => ?_)
    refine fin a4 w (.slice ad 0 0) (some r) ((hf2.trans hf3).trans hf4) ((hs4 u d14 d2).trans hu3) ⟨rfl, rfl⟩ hst fun a' hf' => ?_
    have hstore := hst.store (o + off) (.slice ad 0 0)
    have hcell : (w.setCell ⟨b, o + off, none⟩ (.slice ad 0 0)).cell? ⟨b, o + off, none⟩ = some (.slice ad 0 0) := (hst.blk.set (o + off) _).cell_some (by rw [List.getElem?_set_self hlt])
    refine hq a' (w.setCell ⟨b, o + off, none⟩ (.slice ad 0 0)) (cs.set (o + off) (.slice ad 0 0)) ?_ hf' (keeps_b w _ _) ((SameOut.set cs (o + off) (.slice ad 0 0)).mono (by omega) (by omega)) fun gv r' hv => ?_
    · rw [tot]
      by_cases hnl : n < 0 ∧ nullAt nul ver = true
      · rw [if_pos hnl]; exact hstore
      · rw [if_neg hnl, show n.toNat = 0 by omega]; exact hstore
    · rw [tot] at hv
      by_cases hnl : n < 0 ∧ nullAt nul ver = true
      · rw [if_pos hnl] at hv
        cases hv
        have hns : nul.isSome = true := by
          cases nul with
          | none => exact absurd hnl.2 (by simp [nullAt])
          | some m => rfl
        have had2 : ad = none := by
          have := hnul hns h0
          cases ad with
          | none => rfl
          | some x => exact absurd hnl (this.1 rfl)
        subst had2
        exact ⟨hns, hcell⟩
      · rw [if_neg hnl, show n.toNat = 0 by omega] at hv
        cases hv
        exact ⟨ad, 0, hcell, by simp, fun hns => (hnul hns h0).2 hnl, fun h => absurd rfl h⟩
  · -- things
    have hl3 : aget a3 l = .int .i32 (n.toNat : Nat) := by rw [Int.toNat_of_nonneg (by omega)]; exact (hs3 l (by omega) d4).trans hl2
    have hf03 := hf2.trans hf3
    have hh3 := hh.frR (kokR hk) hD hf03
    have hk1 : Keeps [rb] w (w.drew.alloc (.cells csp.toArray e)) := ((Keeps.refl [rb] w).drew).alloc _
    have hk0 : Keeps [] w (w.drew.alloc (.cells csp.toArray e)) := ((Keeps.refl [] w).drew).alloc _
    have hrst1 : RSt gE E (w.heap.size :: O) (w.drew.alloc (.cells csp.toArray e)) rb w.heap.size csp e (some r) := by
      refine ⟨?_, Blk.alloc_new w.drew csp e, List.mem_cons_of_mem _ hst.rbO, List.mem_cons_self .., ?_, ?_, ?_, ?_⟩
      · exact (hst.rdr.open (Nat.le_refl _)).other (O' := []) hk0 (by simp) (by simp)
      · have := hst.lt rb hst.rbO; omega
      · intro k hk'
        rcases List.mem_cons.1 hk' with rfl | hk'
        · simp
        · have := hst.lt k hk'
          simp
          omega
      · exact (World.cell?_of_block (hk0.block gE (World.block_lt_of_cell? w _ hst.glob) (by simp))).trans hst.glob
      · intro hx
        rcases List.mem_cons.1 hx with hx | hx
        · have := World.block_lt_of_cell? w _ hst.glob
          simp at this
          omega
        · exact hst.gO hx
    refine wp_seq (rd_for hRT (fun q hq => hk q (by simp only [List.mem_cons] at hq ⊢; rcases hq with rfl | hq; exact .inr (.inl rfl); exact .inr (.inr hq))) hD hD' ⟨c12, c13, c14, c15, d1, d2, d3, d4, d5, d6, d9, d10, d11, d12, d13, d14, d15, d16⟩ hB htop hesz hEl (w.heap.size :: O) rb w.heap.size e n.toNat cap a3 _ csp (some r) _
      (hf03.size.trans hN) hh3.tail (by omega) hrst1 hl3 hu3 hfr (fun a4 w4 cs4 hst4 hf4 hu4 hk4 hv4 => ?_) (fun a4 w4 hn4 hs4 hd4 hE4 hk4 => ?_))
    · obtain ⟨hb4, hkb⟩ := hst.back (Nat.le_refl _) hk1 hk4 hst4
      refine fin a4 w4 (.slice (some ⟨w.heap.size, 0, none⟩) n.toNat cap) _ (hf03.trans hf4) hu4 ⟨rfl, rfl⟩ hb4 fun a' hf' => ?_
      have hstore := hb4.store (o + off) (.slice (some ⟨w.heap.size, 0, none⟩) n.toNat cap)
      have hcell : (w4.setCell ⟨b, o + off, none⟩ (.slice (some ⟨w.heap.size, 0, none⟩) n.toNat cap)).cell? ⟨b, o + off, none⟩ = some (.slice (some ⟨w.heap.size, 0, none⟩) n.toNat cap) := (hb4.blk.set (o + off) _).cell_some (by rw [List.getElem?_set_self hlt])
      have hnl : ¬ (n < 0 ∧ nullAt nul ver = true) := fun h => by omega
      rw [if_neg hnl] at tot
      have tot2 : st.bind (rd ver flex (.list nul esz sch)) = ((some r).bind (rdMany (rd ver flex sch) n.toNat)).bind fun q => some (.list q.1, q.2) := tot
      refine hq a' (w4.setCell ⟨b, o + off, none⟩ (.slice (some ⟨w.heap.size, 0, none⟩) n.toNat cap)) (cs.set (o + off) (.slice (some ⟨w.heap.size, 0, none⟩) n.toNat cap)) ?_ hf' (hkb.trans (keeps_b w4 _ _)) ((SameOut.set cs (o + off) _).mono (by omega) (by omega)) fun gv r' hv => ?_
      · rw [tot2]
        cases hx : (some r).bind (rdMany (rd ver flex sch) n.toNat) with
        | none => rw [hx] at hstore; exact hstore
        | some q => rw [hx] at hstore; exact hstore
      · rw [tot2] at hv
        cases hx : (some r).bind (rdMany (rd ver flex sch) n.toNat) with
        | none => rw [hx] at hv; cases hv
        | some q =>
          rw [hx] at hv
          simp only [Option.bind_some, Option.some.injEq, Prod.mk.injEq] at hv
          obtain ⟨rfl, rfl⟩ := hv
          obtain ⟨hlen2, hrep⟩ := hv4 q.1 q.2 hx
          have hkO : Keeps O w4 (w4.setCell ⟨b, o + off, none⟩ (.slice (some ⟨w.heap.size, 0, none⟩) n.toNat cap)) := (Keeps.refl O w4).setCell hst.bO _
          refine ⟨some ⟨w.heap.size, 0, none⟩, cap, by rw [hlen2]; exact hcell, by omega, fun _ => rfl, fun _ => ⟨w.heap.size, 0, rfl, new_notin hst.lt, ?_, fun j x hj => ?_⟩⟩
          · have := hst4.blk.lt
            simpa [World.setCell] using this
          · rw [Nat.zero_add]
            refine ((hrep j x hj).mono hRM fun k hk => List.mem_cons_of_mem _ hk).move hRT hkO fun m _ => ?_
            exact World.cell?_of_block (hkO.block _ hst4.blk.lt (new_notin hst.lt))
    · have hkb := (hk1.mono (O' := [w.heap.size, rb]) (by simp)).trans (hk4.mono (by simp)) |>.close (Nat.le_refl _)
      refine hr a4 w4 ?_ hs4 (hd4.trans hf03.defers) hE4 (keeps_rb hkb)
      rw [tot, if_neg (fun h => by omega)]
      change ((some r).bind (rdMany (rd ver flex sch) n.toNat)).bind _ = none
      rw [hn4]
      rfl
end
end Go.Proofs.YtfchajjllhndlabGreatDoor

/- The code that reads lists, things of lists, tags. -/
namespace Go.Proofs.YtfchajjllhndlabGreatDoor
open Go Go.RowKit
set_option linter.unusedVariables false

section
variable {RT : RTags} {P : Program} {N nt gE : Nat} {E : Value} {K : Slots} {lo t : Nat} {ver : Int} {flex : Bool}
theorem RSt.upd {O : List Nat} {w w' : World} {rb b T : Nat} {cs cs' : List Value} {st : Option (List UInt8)} (h : RSt gE E O w rb b cs T st) (hb : Blk w' b cs' T) (hk : Keeps [b] w w') : RSt gE E O w' rb b cs' T st :=
  ⟨h.rdr.other hk (by simpa using fun e => h.ne e.symm) (by simpa using h.bO), hb, h.rbO, h.bO, h.ne, hlt_on h.lt hk, (World.cell?_of_block (hk.block gE (World.block_lt_of_cell? w _ h.glob) (by rintro hx; rw [List.mem_singleton] at hx; exact h.gO (hx ▸ h.bO)))).trans h.glob, h.gO⟩
/-- All behind the count of a list. -/
def RdTail (RT : RTags) (P : Program) (N nt gE : Nat) (E : Value) (ver : Int) (flex : Bool) (K : Slots) (lo t s bp rs u l : Nat) (ct : Code) (off : Nat) (nul : Option Int) (esz : Nat) (sch : Sch) : Prop :=
  ∀ (O : List Nat) (rb b o Tb : Nat) (a : Act) (w : World) (cs : List Value) (st : Option (List UInt8)) (Q : Exit → Act → World → Prop) (ad : Option Addr) (n : Int),
    a.tmps.size = nt → Holds ((s, .pointer (some ⟨b, o, none⟩)) :: (bp, .pointer (some ⟨rb, 0, none⟩)) :: K) a → RSt gE E O w rb b cs Tb ((st.bind (rdLen flex)).map (·.2)) → o + off < cs.length →
    aget a u = .slice ad 0 0 → aget a l = .int .i32 n → (∀ m r, st.bind (rdLen flex) = some (m, r) → m = n) → (nul.isSome = true → n ≤ 0 → (ad.isSome = true ↔ ¬ (n < 0 ∧ nullAt nul ver = true))) →
    (∀ a' w' cs', RSt gE E O w' rb b cs' Tb ((st.bind (rd ver flex (.list nul esz sch))).map (·.2)) → Fr N lo t nt a a' → Keeps [rb, b] w w' → SameOut cs cs' (o + off) (o + (off + 1)) → (∀ v r, st.bind (rd ver flex (.list nul esz sch)) = some (v, r) → Rep RT O w' ver flex (.list nul esz sch) b (o + off) v) → Q .normal a' w') →
    (∀ a' w', st.bind (rd ver flex (.list nul esz sch)) = none → a'.tmps.size = nt → a'.defers = a.defers → aget a' rs = E → Keeps [rb, b] w w' → Q .ret a' w') → ct.wp P Q a w
theorem rdF_list0 {s bp rs u l v t1 t2 T' k U off r1 r2 r3 y1 y2 y3 y4 y5 y6 y7 y8 esz : Nat} {q1 q2 q3 q4 q5 q6 q7 q8 : String} {g1 g2 g3 g4 g5 g6 g7 g8 : Array Edge} {ct : Code} {nul : Option Int} {sch : Sch}
    (hk : KOK N lo t ((s, .int .i64 0) :: (bp, .int .i64 0) :: K)) (hT : FieldAt P T' k off) (hU : OneCell P U) (hD : Dims N nt lo t) (hd : t ≤ t1 ∧ t1 + 3 < nt ∧ lo ≤ v ∧ v < N ∧ t ≤ t2 ∧ t2 < nt ∧ lo ≤ u ∧ u < N ∧ lo ≤ l ∧ l < N ∧ u ≠ l)
    (h : ∀ (O : List Nat) (rb b o Tb : Nat) (a : Act) (w : World) (cs : List Value) (st : Option (List UInt8)) (Q : Exit → Act → World → Prop), a.tmps.size = nt → Holds ((s, .pointer (some ⟨b, o, none⟩)) :: (bp, .pointer (some ⟨rb, 0, none⟩)) :: K) a → RSt gE E O w rb b cs Tb st → o + off < cs.length → aget a u = .slice none 0 0 →
      (∀ a' w' cs', RSt gE E O w' rb b cs' Tb ((st.bind (rd ver flex (.list nul esz sch))).map (·.2)) → Fr N lo t nt a a' → Keeps [rb, b] w w' → SameOut cs cs' (o + off) (o + (off + 1)) → (∀ v r, st.bind (rd ver flex (.list nul esz sch)) = some (v, r) → Rep RT O w' ver flex (.list nul esz sch) b (o + off) v) → Q .normal a' w') →
      (∀ a' w', st.bind (rd ver flex (.list nul esz sch)) = none → a'.tmps.size = nt → a'.defers = a.defers → aget a' rs = E → Keeps [rb, b] w w' → Q .ret a' w') → ct.wp P Q a w) :
    RdF RT P N nt gE E ver flex K lo t s bp rs ((Code.region r1 #[⟨some t1, .move (.tmp s), y1, q1, g1, none⟩, ⟨some (t1 + 1), .nilCheck (.tmp t1), y2, q2, g2, none⟩, ⟨some (t1 + 2), .fieldAddr T' (.tmp (t1 + 1)) k, y3, q3, g3, none⟩,
      ⟨some (t1 + 3), .load U (.tmp (t1 + 2)), y4, q4, g4, none⟩, ⟨some v, .assign (.tmp (t1 + 3)), y5, q5, g5, none⟩] false).seq
      ((Code.region r2 #[⟨some t2, .move (.tmp v), y6, q6, g6, none⟩, ⟨some u, .assign (.tmp t2), y7, q7, g7, none⟩] false).seq
      ((Code.region r3 #[⟨some l, .assign (.const (.int .i32 0)), y8, q8, g8, none⟩] false).seq ct))) off (.list nul esz sch) := by
  intro O rb b o Tb a w cs st Q hN hh hst hF hq hr
  obtain ⟨d1, d2, d3, d4, d5, d6, d7, d8, d9, d10, d11⟩ := hd
  have x1 := hD.dOne; have x2 := hD.dLo; have x3 := hD.dT; have x4 := hD.dN
  have hc : cs[o + off]? = some (.slice none 0 0) := hF
  have hlt : o + off < cs.length := (List.getElem?_eq_some_iff.1 hc).1
  refine wp_seq (reg_load (x0 := nt) (lo := lo) hT hU hN hh.head (x := .slice none 0 0) (by rw [Addr.add_lit]; exact hst.blk.cell_some hc) ⟨hD.dT, d1, d2, d3, d4⟩ fun a1 hf1 hx1 => ?_)
  have hN1 := hf1.size.trans hN
  refine wp_seq (reg_copy (x0 := nt) (lo := lo) hN1 hx1 ⟨hD.dT, d5, d6, d7, d8⟩ fun a2 hf2 hx2 => ?_)
  refine wp_seq (wp_reg (wl_assign_c (wpList_nil ?_)))
  have hf3 : Fr N lo t nt a (a2.put (some l) (.int .i32 0)) := (hf1.trans hf2).trans ((Fr.refl N lo t nt a2).put _ _ (by omega))
  exact h O rb b o Tb _ w cs st Q (hf3.size.trans hN) (hh.frR (kokR hk) hD hf3) hst hlt (by rw [aget_put_other _ _ _ u (by omega)]; exact hx2) (fun a' w' cs' k1 k2 => hq a' w' cs' k1 (hf3.trans k2)) (fun a' w' k1 k2 k3 => hr a' w' k1 k2 (k3.trans hf3.defers))
theorem rdF_list {s bp rs u l v t1 t2 T' k U off r1 r2 r3 y1 y2 y3 y4 y5 y6 y7 y8 esz : Nat} {q1 q2 q3 q4 q5 q6 q7 q8 : String} {g1 g2 g3 g4 g5 g6 g7 g8 : Array Edge} {cl ct : Code} {sch : Sch}
    (hk : KOK N lo t ((s, .int .i64 0) :: (bp, .int .i64 0) :: K)) (hT : FieldAt P T' k off) (hU : OneCell P U) (hD : Dims N nt lo t) (hd : t ≤ t1 ∧ t1 + 3 < nt ∧ lo ≤ v ∧ v < N ∧ t ≤ t2 ∧ t2 < nt ∧ lo ≤ u ∧ u < N ∧ lo ≤ l ∧ l < N ∧ u ≠ l)
    (hl : RdLn P N nt gE E flex K lo t bp cl l) (ht : RdTail RT P N nt gE E ver flex K lo t s bp rs u l ct off none esz sch) :
    RdF RT P N nt gE E ver flex K lo t s bp rs ((Code.region r1 #[⟨some t1, .move (.tmp s), y1, q1, g1, none⟩, ⟨some (t1 + 1), .nilCheck (.tmp t1), y2, q2, g2, none⟩, ⟨some (t1 + 2), .fieldAddr T' (.tmp (t1 + 1)) k, y3, q3, g3, none⟩,
      ⟨some (t1 + 3), .load U (.tmp (t1 + 2)), y4, q4, g4, none⟩, ⟨some v, .assign (.tmp (t1 + 3)), y5, q5, g5, none⟩] false).seq
      ((Code.region r2 #[⟨some t2, .move (.tmp v), y6, q6, g6, none⟩, ⟨some u, .assign (.tmp t2), y7, q7, g7, none⟩] false).seq
      ((Code.region r3 #[⟨some l, .assign (.const (.int .i32 0)), y8, q8, g8, none⟩] false).seq (cl.seq ct)))) off (.list none esz sch) := by
  refine rdF_list0 hk hT hU hD hd fun O rb b o Tb a w cs st Q hN hh hst hlt hu hq hr => ?_
  refine wp_seq (hl O rb b Tb a w cs st _ hN hh.tail hst fun a1 w1 n hl1 hst1 hf1 hs1 hk1 hn1 => ?_)
  exact ht O rb b o Tb a1 w1 cs st Q none n (hf1.size.trans hN) (hh.frR (kokR hk) hD hf1) hst1 hlt ((hs1 u hd.2.2.2.2.2.2.2.2.2.2 hd.2.2.2.2.2.2.2.1).trans hu) hl1 hn1 (fun h => nomatch h)
    (fun a' w' cs' k1 k2 k3 => hq a' w' cs' k1 (hf1.trans k2) ((keeps_rb hk1).trans k3)) (fun a' w' k1 k2 k3 k4 k5 => hr a' w' k1 k2 (k3.trans hf1.defers) k4 ((keeps_rb hk1).trans k5))
theorem run_build0 {Ts e y : Nat} {q : String} {g : Array Edge} {d : Option Nat} {i : TypeInfo} (hT : P.underlying Ts = some (.slice e)) (hi : P.info? e = some i) (w : World) (a : Act) :
    (execOp a.eval ⟨d, .buildSlice Ts 0 #[], y, q, g, none⟩).run P w = .ok (.value (.slice (some ⟨w.heap.size, 0, none⟩) 0 0)) (w.alloc (.cells #[] e)) := by
  simp [execOp, Instr.buildSlice, run_underlying hT, sizeOf, typeInfo, hi, newRow, Instr.fill]
  rw [show Array.range 0 = #[] from rfl, Array.map_empty]
theorem reg_nul {a : Act} {w : World} {Q : Exit → Act → World → Prop} {u l t1 r x0 ty1 ty2 ty3 ty4 ty5 ty6 T U T' U' : Nat} {p1 p2 p3 p4 p5 p6 : String} {e1 e2 e3 e4 e5 e6 : Array Edge} {x n m : Int} (hN : a.tmps.size = nt) (hs : aget a u = .int .i16 x) (hl : aget a l = .int .i32 n) (hd : N ≤ t ∧ t ≤ t1 ∧ t1 + 5 < nt ∧ lo ≤ N ∧ u ≠ t1 ∧ u ≠ t1 + 1 ∧ u ≠ t1 + 2 ∧ l ≠ t1 ∧ l ≠ t1 + 1 ∧ l ≠ t1 + 2)
    (h : ∀ a', Fr N lo t x0 a a' → aget a' (t1 + 5) = .bool (decide (x < m) || decide (n = 0)) → Q .normal a' w) :
    (Code.region r #[⟨some t1, .move (.tmp u), ty1, p1, e1, none⟩, ⟨some (t1 + 1), .binOp .lss T (.tmp t1) (.const (.int .i16 m)) U, ty2, p2, e2, none⟩, ⟨some (t1 + 2), .move (.tmp (t1 + 1)), ty3, p3, e3, none⟩,
      ⟨some (t1 + 3), .move (.tmp l), ty4, p4, e4, some (2, false)⟩, ⟨some (t1 + 4), .binOp .eql T' (.tmp (t1 + 3)) (.const (.int .i32 0)) U', ty5, p5, e5, some (2, false)⟩,
      ⟨some (t1 + 5), .pick (.tmp (t1 + 2)) (.const (.bool true)) (.tmp (t1 + 4)), ty6, p6, e6, none⟩] false).wp P Q a w := by
  obtain ⟨h1, h2, h3, h4, h5, h6, h7, h8, h9, h10⟩ := hd
  refine wp_reg ?_
  refine wl_move hs ?_
  refine wl_bin (r := .bool (decide (x < m))) (aget_put_same _ _ _ (by (first | rw [hN] | simp only [size_put, hN]); omega)) (eqGuard_at_int ..) (by rw [run_cmp_i16]) ?_
  refine wl_move (aget_put_same _ _ _ (by (first | rw [hN] | simp only [size_put, hN]); omega)) ?_
  have hy : ∀ (A : Act) (b : Bool) (l : Array Oper) (o : Oper), l[2]? = some o → o.dst = some (t1 + 2) → aget A (t1 + 2) = .bool b → t1 + 2 < A.tmps.size → yielded l A.tmps 2 = some b := by
    intro A b l o hl ho hA hlt
    unfold aget at hA
    rw [Array.getD_eq_getD_getElem?, Array.getElem?_eq_getElem hlt] at hA
    simp at hA
    simp [yielded, hl, ho, hlt, hA]
  by_cases hn : x < m
  · rw [decide_eq_true hn]
    refine wpList_step fun K hK => ?_
    rw [if_neg (by
      simp only [Region.wanted]
      rw [hy _ true _ _ rfl rfl (aget_put_same _ _ _ (by (first | rw [hN] | simp only [size_put, hN]); omega)) (by (first | rw [hN] | simp only [size_put, hN]); omega)]
      decide)]
    refine hK _ _ ?_
    refine wpList_step fun K2 hK2 => ?_
    rw [if_neg (by
      simp only [Region.wanted]
      rw [hy _ true _ _ rfl rfl (by rw [aget_put_other _ _ _ _ (by omega)]; exact aget_put_same _ _ _ (by (first | rw [hN] | simp only [size_put, hN]); omega)) (by (first | rw [hN] | simp only [size_put, hN]); omega)]
      decide)]
    refine hK2 _ _ ?_
    refine wl_value (v := .bool (decide (x < m) || decide (n = 0))) (w' := w) rfl ?_ ?_
    · have e2 : ∀ A : Act, aget A (t1 + 2) = .bool true → (execOp A.eval ⟨some (t1 + 5), .pick (.tmp (t1 + 2)) (.const (.bool true)) (.tmp (t1 + 4)), ty6, p6, e6, none⟩).run P w = .ok (.value (.bool (decide (x < m) || decide (n = 0)))) w := by
        intro A hA
        have e3 : A.eval (.const (.bool true)) = .bool true := rfl
        simp [execOp, aget_eval, hA, asBool, hn, e3]
      refine e2 _ ?_
      rw [aget_put_other _ _ _ _ (by omega), aget_put_other _ _ _ _ (by omega)]
      exact aget_put_same _ _ _ (by (first | rw [hN] | simp only [size_put, hN]); omega)
    · exact wpList_nil (h _ (((((((Fr.refl N lo t x0 a).put _ _ (by omega)).put _ _ (by omega)).put _ _ (by omega)).put _ _ (by omega)).put _ _ (by omega)).put _ _ (by omega)) (aget_put_same _ _ _ (by (first | rw [hN] | simp only [size_put, hN]); omega)))
  · rw [decide_eq_false hn]
    refine wpList_step fun K hK => ?_
    rw [if_pos (by
      simp only [Region.wanted]
      rw [hy _ false _ _ rfl rfl (aget_put_same _ _ _ (by (first | rw [hN] | simp only [size_put, hN]); omega)) (by (first | rw [hN] | simp only [size_put, hN]); omega)]
      rfl)]
    unfold Oper.wp
    have e0 : ∀ A : Act, aget A l = .int .i32 n → (execOp A.eval ⟨some (t1 + 3), .move (.tmp l), ty4, p4, e4, some (2, false)⟩).run P w = .ok (.value (.int .i32 n)) w := by
      intro A hA
      simp [execOp, aget_eval, hA]
    rw [e0 _ (by rw [aget_put_other _ _ _ _ (by omega), aget_put_other _ _ _ _ (by omega), aget_put_other _ _ _ _ (by omega)]; exact hl)]
    refine hK _ _ ?_
    refine wpList_step fun K2 hK2 => ?_
    rw [if_pos (by
      simp only [Region.wanted]
      rw [hy _ false _ _ rfl rfl (by rw [aget_put_other _ _ _ _ (by omega)]; exact aget_put_same _ _ _ (by (first | rw [hN] | simp only [size_put, hN]); omega)) (by (first | rw [hN] | simp only [size_put, hN]); omega)]
      rfl)]
    unfold Oper.wp
    have e1 : ∀ A : Act, aget A (t1 + 3) = .int .i32 n → (execOp A.eval ⟨some (t1 + 4), .binOp .eql T' (.tmp (t1 + 3)) (.const (.int .i32 0)) U', ty5, p5, e5, some (2, false)⟩).run P w = .ok (.value (.bool (decide (n = 0)))) w := by
      intro A hA
      have e2 : A.eval (.tmp (t1 + 3)) = .int .i32 n := hA
      have e3 : A.eval (.const (.int .i32 0)) = .int .i32 0 := rfl
      simp [execOp, e2, e3, eqGuard_at_int, binOp, Op.intCmp]
      try rfl
    rw [e1 _ (aget_put_same _ _ _ (by (first | rw [hN] | simp only [size_put, hN]); omega))]
    refine hK2 _ _ ?_
    refine wl_value (v := .bool (decide (x < m) || decide (n = 0))) (w' := w) rfl ?_ ?_
    · have e2 : ∀ A : Act, aget A (t1 + 2) = .bool false → aget A (t1 + 4) = .bool (decide (n = 0)) → (execOp A.eval ⟨some (t1 + 5), .pick (.tmp (t1 + 2)) (.const (.bool true)) (.tmp (t1 + 4)), ty6, p6, e6, none⟩).run P w = .ok (.value (.bool (decide (x < m) || decide (n = 0)))) w := by
        intro A hA hB
        simp [execOp, aget_eval, hA, hB, asBool, hn]
      refine e2 _ ?_ (aget_put_same _ _ _ (by (first | rw [hN] | simp only [size_put, hN]); omega))
      rw [aget_put_other _ _ _ _ (by omega), aget_put_other _ _ _ _ (by omega)]
      exact aget_put_same _ _ _ (by (first | rw [hN] | simp only [size_put, hN]); omega)
    · exact wpList_nil (h _ (((((((Fr.refl N lo t x0 a).put _ _ (by omega)).put _ _ (by omega)).put _ _ (by omega)).put _ _ (by omega)).put _ _ (by omega)).put _ _ (by omega)) (aget_put_same _ _ _ (by (first | rw [hN] | simp only [size_put, hN]); omega)))
/-- 'if version < n || l == 0 { a = []T{} }'. -/
theorem rdF_listN {s bp rs u l v sv t1 t2 t3 t4 T' k U off r1 r2 r3 r4 r5 y1 y2 y3 y4 y5 y6 y7 y8 y9 y10 y11 y12 y13 y14 y15 y16 J1 J2 J3 J4 Ts e esz : Nat} {q1 q2 q3 q4 q5 q6 q7 q8 q9 q10 q11 q12 q13 q14 q15 q16 : String} {g1 g2 g3 g4 g5 g6 g7 g8 g9 g10 g11 g12 g13 g14 g15 g16 : Array Edge} {cl ct : Code} {sch : Sch} {m : Int}
    (hk : KOK N lo t ((s, .int .i64 0) :: (bp, .int .i64 0) :: K)) (hT : FieldAt P T' k off) (hU : OneCell P U) (hD : Dims N nt lo t) (hd : t ≤ t1 ∧ t1 + 3 < nt ∧ lo ≤ v ∧ v < N ∧ t ≤ t2 ∧ t2 < nt ∧ lo ≤ u ∧ u < N ∧ lo ≤ l ∧ l < N ∧ u ≠ l) (hd2 : t ≤ t3 ∧ t3 + 5 < nt ∧ t ≤ t4 ∧ t4 < nt)
    (hTs : P.underlying Ts = some (.slice e)) (hsv : (sv, Value.int .i16 ver) ∈ K) (hl : RdLn P N nt gE E flex K lo t bp cl l) (ht : RdTail RT P N nt gE E ver flex K lo t s bp rs u l ct off (some m) esz sch) (hsz : ∃ i, P.info? e = some i ∧ i.size = esz) :
    RdF RT P N nt gE E ver flex K lo t s bp rs ((Code.region r1 #[⟨some t1, .move (.tmp s), y1, q1, g1, none⟩, ⟨some (t1 + 1), .nilCheck (.tmp t1), y2, q2, g2, none⟩, ⟨some (t1 + 2), .fieldAddr T' (.tmp (t1 + 1)) k, y3, q3, g3, none⟩,
      ⟨some (t1 + 3), .load U (.tmp (t1 + 2)), y4, q4, g4, none⟩, ⟨some v, .assign (.tmp (t1 + 3)), y5, q5, g5, none⟩] false).seq
      ((Code.region r2 #[⟨some t2, .move (.tmp v), y6, q6, g6, none⟩, ⟨some u, .assign (.tmp t2), y7, q7, g7, none⟩] false).seq
      ((Code.region r3 #[⟨some l, .assign (.const (.int .i32 0)), y8, q8, g8, none⟩] false).seq (cl.seq
      (((Code.region r4 #[⟨some t3, .move (.tmp sv), y9, q9, g9, none⟩, ⟨some (t3 + 1), .binOp .lss J1 (.tmp t3) (.const (.int .i16 m)) J2, y10, q10, g10, none⟩, ⟨some (t3 + 2), .move (.tmp (t3 + 1)), y11, q11, g11, none⟩,
        ⟨some (t3 + 3), .move (.tmp l), y12, q12, g12, some (2, false)⟩, ⟨some (t3 + 4), .binOp .eql J3 (.tmp (t3 + 3)) (.const (.int .i32 0)) J4, y13, q13, g13, some (2, false)⟩, ⟨some (t3 + 5), .pick (.tmp (t3 + 2)) (.const (.bool true)) (.tmp (t3 + 4)), y14, q14, g14, none⟩] false).seq
        (.cond (.tmp (t3 + 5)) (Code.region r5 #[⟨some t4, .buildSlice Ts 0 #[], y15, q15, g15, none⟩, ⟨some u, .assign (.tmp t4), y16, q16, g16, none⟩] false) .skip)).seq ct))))) off (.list (some m) esz sch) := by
  refine rdF_list0 hk hT hU hD hd fun O rb b o Tb a w cs st Q hN hh hst hlt hu hq hr => ?_
  obtain ⟨d1, d2, d3, d4, d5, d6, d7, d8, d9, d10, d11⟩ := hd
  obtain ⟨c1, c2, c3, c4⟩ := hd2
  have x1 := hD.dOne; have x2 := hD.dLo; have x3 := hD.dT; have x4 := hD.dN
  have hsvk := hk _ (List.mem_cons_of_mem _ (List.mem_cons_of_mem _ hsv))
  simp only at hsvk
  refine wp_seq (hl O rb b Tb a w cs st _ hN hh.tail hst fun a1 w1 n hl1 hst1 hf1 hs1 hk1 hn1 => ?_)
  have hN1 := hf1.size.trans hN
  have hh1 := hh.frR (kokR hk) hD hf1
  have hu1 : aget a1 u = .slice none 0 0 := (hs1 u d11 d8).trans hu
  refine wp_seq (wp_seq (reg_nul (x0 := nt) (lo := N) hN1 (hh1 _ (List.mem_cons_of_mem _ (List.mem_cons_of_mem _ hsv))) hl1 ⟨x3, c1, c2, Nat.le_refl _, by omega, by omega, by omega, by omega, by omega, by omega⟩ fun a2 hf2 hx2 => ?_))
  have hN2 := hf2.size.trans hN1
  have hf02 : Fr N lo t nt a a2 := hf1.trans (hf2.mono x2 (Nat.le_refl _))
  have hh2 := hh.frR (kokR hk) hD hf02
  have hs2 : ∀ q, q < N → aget a2 q = aget a1 q := fun q hq => hf2.same q (by omega) (.inl hq)
  by_cases hc : ver < m ∨ n = 0
  · refine wp_cond_true (hx2.trans (by simpa using hc)) (wp_reg ?_)
    obtain ⟨ie, hie, hies⟩ := hsz
    refine wl_value (v := .slice (some ⟨w1.heap.size, 0, none⟩) 0 0) (w' := w1.alloc (.cells #[] e)) rfl (run_build0 hTs hie w1 a2) ?_
    refine wl_assign (aget_put_same _ _ _ (by omega)) ?_
    refine wpList_nil ?_
    have hf3 : Fr N lo t nt a2 ((a2.put (some t4) (.slice (some ⟨w1.heap.size, 0, none⟩) 0 0)).put (some u) (.slice (some ⟨w1.heap.size, 0, none⟩) 0 0)) := ((Fr.refl N lo t nt a2).put _ _ (by omega)).put _ _ (by omega)
    have hu3 : aget ((a2.put (some t4) (.slice (some ⟨w1.heap.size, 0, none⟩) 0 0)).put (some u) (.slice (some ⟨w1.heap.size, 0, none⟩) 0 0)) u = .slice (some ⟨w1.heap.size, 0, none⟩) 0 0 := aget_put_same _ _ _ (by simp only [size_put]; omega)
    have hl3 : aget ((a2.put (some t4) (.slice (some ⟨w1.heap.size, 0, none⟩) 0 0)).put (some u) (.slice (some ⟨w1.heap.size, 0, none⟩) 0 0)) l = .int .i32 n := by rw [aget_put_other _ _ _ l (by omega), aget_put_other _ _ _ l (by omega), hs2 l (by omega)]; exact hl1
    generalize ((a2.put (some t4) (.slice (some ⟨w1.heap.size, 0, none⟩) 0 0)).put (some u) (.slice (some ⟨w1.heap.size, 0, none⟩) 0 0)) = a3 at *
    have hk2 : Keeps [] w1 (w1.alloc (.cells #[] e)) := (Keeps.refl [] w1).alloc _
    have hst2 := hst1.upd (hst1.blk.keeps hk2 (by simp)) (hk2.mono (by simp))
    have hf03 := hf02.trans hf3
    have hkk : Keeps [rb, b] w (w1.alloc (.cells #[] e)) := (keeps_rb hk1).trans (hk2.mono (by simp))
    exact ht O rb b o Tb a3 _ cs st Q _ n (hf03.size.trans hN) (hh.frR (kokR hk) hD hf03) hst2 hlt hu3 hl3 hn1 (fun _ hn => by
        simp only [Option.isSome_some, true_iff, nullAt, decide_eq_true_eq]
        omega)
      (fun a' w' cs' k1 k2 k3 => hq a' w' cs' k1 (hf03.trans k2) (hkk.trans k3)) (fun a' w' k1 k2 k3 k4 k5 => hr a' w' k1 k2 (k3.trans hf03.defers) k4 (hkk.trans k5))
  · refine wp_cond_false (hx2.trans (by simpa using hc)) (wp_skip ?_)
    exact ht O rb b o Tb a2 w1 cs st Q none n hN2 hh2 hst1 hlt ((hs2 u (by omega)).trans hu1) ((hs2 l (by omega)).trans hl1) hn1 (fun _ hn => by
        simp only [Option.isSome_none, Bool.false_eq_true, false_iff, nullAt, decide_eq_true_eq]
        omega)
      (fun a' w' cs' k1 k2 k3 => hq a' w' cs' k1 (hf02.trans k2) ((keeps_rb hk1).trans k3)) (fun a' w' k1 k2 k3 k4 k5 => hr a' w' k1 k2 (k3.trans hf02.defers) k4 ((keeps_rb hk1).trans k5))
/-- What is asked of a Default. -/
def DefC (P : Program) (F : Nat) (e : Sch) : Prop := ∀ (w : World) (b o T : Nat) (cs : List Value), Blk w b cs T → Fresh cs o e → Calls P F #[.pointer (some ⟨b, o, none⟩)] w fun en w' => ∃ cs', en = .returned (.tuple #[]) ∧ Blk w' b cs' T ∧ SameOut cs cs' o (o + top e) ∧ Keeps [b] w w' ∧ Fresh cs' o e
/-- 'v := &a[i]; v.Default(); s := v; ..'. -/
theorem rdEl_part {u i bp rs v s t1 t2 t3 FD T e r1 r2 r3 y1 y2 y3 y4 y5 y6 y7 y8 esz lo' t' : Nat} {q1 q2 q3 q4 q5 q6 q7 q8 : String} {g1 g2 g3 g4 g5 g6 g7 g8 : Array Edge} {at_ : Array TypeId} {c : Code} {sch : Sch}
    (hk : KOK N lo t ((bp, .int .i64 0) :: K)) (hT : P.underlying T = some (.slice e)) (hE : ∃ i, P.info? e = some i ∧ i.size = esz) (he : Enters P FD) (hDef : DefC P FD sch) (hD : Dims N nt lo t) (hD' : Dims N nt lo' t')
    (hd : t ≤ t1 ∧ t1 + 2 < nt ∧ t ≤ t2 ∧ t2 + 1 < nt ∧ t ≤ t3 ∧ t3 < nt ∧ lo ≤ v ∧ v < N ∧ lo ≤ s ∧ s < N ∧ lo ≤ lo' ∧ t ≤ t' ∧ i < N ∧ v ≠ s) (hd2 : KOK N lo t' ((bp, .int .i64 0) :: K) ∧ True) (htop : top sch ≤ esz) (h : RdS RT P N nt gE E ver flex K lo' t' s bp rs c 0 sch) :
    RdEl RT P N nt gE E ver flex K lo t u i bp rs ((Code.region r1 #[⟨some t1, .move (.tmp u), y1, q1, g1, none⟩, ⟨some (t1 + 1), .move (.tmp i), y2, q2, g2, none⟩, ⟨some (t1 + 2), .indexAddr T (.tmp t1) (.tmp (t1 + 1)), y3, q3, g3, none⟩, ⟨some v, .assign (.tmp (t1 + 2)), y4, q4, g4, none⟩] false).seq
      ((Code.region r2 #[⟨some t2, .move (.tmp v), y5, q5, g5, none⟩, ⟨some (t2 + 1), .call { callee := .value (.func FD), args := #[.tmp t2], argTypes := at_ }, y6, q6, g6, none⟩] false).seq
      ((Code.region r3 #[⟨some t3, .move (.tmp v), y7, q7, g7, none⟩, ⟨some s, .assign (.tmp t3), y8, q8, g8, none⟩] false).seq c))) esz sch := by
  intro O rb p Tp n cap k a w cs st Q hN hh hkn hst hF hq hr
  obtain ⟨d1, d2, d3, d4, d5, d6, d7, d8, d9, d10, d11, d12, d13, d14⟩ := hd
  have x1 := hD.dOne; have x2 := hD.dLo; have x3 := hD.dT; have x4 := hD.dN
  have hk' : ∀ x, KOK N lo t ((bp, x) :: K) := fun x q hq => by
    simp only [List.mem_cons] at hq
    rcases hq with rfl | hq
    · exact hk (bp, .int .i64 0) (by simp)
    · exact hk q (by simp [hq])
  refine wp_seq (wp_reg ?_)
  refine wl_move hh.tail.head ?_
  refine wl_move (v := .int .i32 (k : Nat)) (by rw [aget_put_other _ _ _ _ (by omega)]; exact hh.head) ?_
  refine wl_index32 (k := k) hT hE hkn (by rw [aget_put_other _ _ _ _ (by omega)]; exact aget_put_same _ _ _ (by omega)) (aget_put_same _ _ _ (by simp only [size_put]; omega)) ?_
  rw [Addr.add_lit, Nat.zero_add]
  refine wl_assign (aget_put_same _ _ _ (by simp only [size_put]; omega)) ?_
  refine wpList_nil ?_
  have hf1 : Fr N lo t nt a ((((a.put (some t1) (.slice (some ⟨p, 0, none⟩) n cap)).put (some (t1 + 1)) (.int .i32 (k : Nat))).put (some (t1 + 2)) (.pointer (some ⟨p, k * esz, none⟩))).put (some v) (.pointer (some ⟨p, k * esz, none⟩))) := ((((Fr.refl N lo t nt a).put _ _ (by omega)).put _ _ (by omega)).put _ _ (by omega)).put _ _ (by omega)
  have hv1 : aget ((((a.put (some t1) (.slice (some ⟨p, 0, none⟩) n cap)).put (some (t1 + 1)) (.int .i32 (k : Nat))).put (some (t1 + 2)) (.pointer (some ⟨p, k * esz, none⟩))).put (some v) (.pointer (some ⟨p, k * esz, none⟩))) v = .pointer (some ⟨p, k * esz, none⟩) := aget_put_same _ _ _ (by simp only [size_put]; omega)
  generalize ((((a.put (some t1) (.slice (some ⟨p, 0, none⟩) n cap)).put (some (t1 + 1)) (.int .i32 (k : Nat))).put (some (t1 + 2)) (.pointer (some ⟨p, k * esz, none⟩))).put (some v) (.pointer (some ⟨p, k * esz, none⟩))) = a1 at *
  have hN1 := hf1.size.trans hN
  simp only [Exit.then]
  refine wp_seq (wp_reg ?_)
  refine wl_move hv1 ?_
  refine wl_call (R := fun en w' => ∃ cs', en = .returned (.tuple #[]) ∧ Blk w' p cs' Tp ∧ SameOut cs cs' (k * esz) (k * esz + top sch) ∧ Keeps [p] w w' ∧ Fresh cs' (k * esz) sch) he ?_ ?_
  · simp only [List.map_toArray, List.map_cons, List.map_nil, aget_eval]
    rw [aget_put_same _ _ _ (by omega)]
    exact hDef w p (k * esz) Tp cs hst.blk hF
  rintro en w2 ⟨cs2, rfl, hb2, hs2, hk2, hF2⟩
  refine ⟨_, rfl, wpList_nil ?_⟩
  have hst2 := hst.upd hb2 hk2
  have hf2 : Fr N lo t nt a1 ((a1.put (some t2) (.pointer (some ⟨p, k * esz, none⟩))).put (some (t2 + 1)) (.tuple #[])) := ((Fr.refl N lo t nt a1).put _ _ (by omega)).put _ _ (by omega)
  have hv2 : aget ((a1.put (some t2) (.pointer (some ⟨p, k * esz, none⟩))).put (some (t2 + 1)) (.tuple #[])) v = .pointer (some ⟨p, k * esz, none⟩) := by rw [aget_put_other _ _ _ v (by omega), aget_put_other _ _ _ v (by omega)]; exact hv1
  generalize ((a1.put (some t2) (.pointer (some ⟨p, k * esz, none⟩))).put (some (t2 + 1)) (.tuple #[])) = a2 at *
  have hN2 := hf2.size.trans hN1
  simp only [Exit.then]
  refine wp_seq (wp_reg ?_)
  refine wl_move hv2 ?_
  refine wl_assign (aget_put_same _ _ _ (by omega)) ?_
  refine wpList_nil ?_
  have hf3 : Fr N lo t nt a2 ((a2.put (some t3) (.pointer (some ⟨p, k * esz, none⟩))).put (some s) (.pointer (some ⟨p, k * esz, none⟩))) := ((Fr.refl N lo t nt a2).put _ _ (by omega)).put _ _ (by omega)
  have hs3 : aget ((a2.put (some t3) (.pointer (some ⟨p, k * esz, none⟩))).put (some s) (.pointer (some ⟨p, k * esz, none⟩))) s = .pointer (some ⟨p, k * esz, none⟩) := aget_put_same _ _ _ (by simp only [size_put]; omega)
  generalize ((a2.put (some t3) (.pointer (some ⟨p, k * esz, none⟩))).put (some s) (.pointer (some ⟨p, k * esz, none⟩))) = a3 at *
  have hf03 := (hf1.trans hf2).trans hf3
  have hh3 : Holds ((bp, .pointer (some ⟨rb, 0, none⟩)) :: K) a3 := hh.tail.tail.frR (hk' _) hD hf03
  simp only [Exit.then]
  have hkk : Keeps [rb, p] w w2 := hk2.mono (by simp)
  refine h O rb p (k * esz) Tp a3 w2 cs2 st Q (hf03.size.trans hN) (hh3.cons hs3) hst2 hF2 (fun a4 w4 cs4 k1 k2 k3 k4 k5 => ?_) (fun a4 w4 k1 k2 k3 k4 k5 => hr a4 w4 k1 k2 (k3.trans hf03.defers) k4 (hkk.trans k5))
  refine hq a4 w4 cs4 k1 (hf03.trans (k2.mono d11 d12)) (hkk.trans k3) (hs2.trans k4 (by omega) (by omega)) k5
theorem KOKmono {lo' t' : Nat} (h : KOK N lo t K) (h1 : lo ≤ lo') (h2 : t ≤ t') : KOK N lo' t' K := fun p hp => by have := h p hp; omega
/-- A value of a list: '..; a[i] = v'. -/
theorem rdEl_leaf {u i bp rs v t1 T e U r1 y1 y2 y3 y4 y5 : Nat} {q1 q2 q3 q4 q5 : String} {g1 g2 g3 g4 g5 : Array Edge} {c : Code} {lf : Leaf}
    (hk : KOK N lo t ((bp, .int .i64 0) :: K)) (hT : P.underlying T = some (.slice e)) (hE : ∃ i, P.info? e = some i ∧ i.size = 1) (hU : OneCell P U) (hD : Dims N nt lo t) (hd : t ≤ t1 ∧ t1 + 3 < nt ∧ v < N ∧ i < lo ∧ u < lo) (hlf : lf ≠ .uuid) (h : RdL P N nt gE E ver flex K lo t bp c v lf) :
    RdEl RT P N nt gE E ver flex K lo t u i bp rs (c.seq (.region r1 #[⟨some t1, .move (.tmp u), y1, q1, g1, none⟩, ⟨some (t1 + 1), .move (.tmp i), y2, q2, g2, none⟩, ⟨some (t1 + 2), .move (.tmp v), y3, q3, g3, none⟩, ⟨some (t1 + 3), .indexAddr T (.tmp t1) (.tmp (t1 + 1)), y4, q4, g4, none⟩,
      ⟨none, .store U (.tmp (t1 + 3)) (.tmp (t1 + 2)), y5, q5, g5, none⟩] false)) 1 (.leaf lf) := by
  intro O rb p Tp n cap k a w cs st Q hN hh hkn hst hF hq hr
  obtain ⟨d1, d2, d3, d4, d5⟩ := hd
  have x1 := hD.dOne; have x2 := hD.dLo; have x3 := hD.dT; have x4 := hD.dN
  have hl : k * 1 < cs.length := by cases lf <;> first | exact hF | exact absurd rfl hlf
  refine wp_seq (h O rb p Tp a w cs st _ hN hh.tail.tail hst fun a1 w1 x hx hone hst1 hf1 hk1 hlv => ?_)
  have hN1 := hf1.size.trans hN
  have hu1 : aget a1 u = .slice (some ⟨p, 0, none⟩) n cap := (hf1.same u (by omega) (.inl d5)).trans hh.tail.head
  have hi1 : aget a1 i = .int .i32 (k : Nat) := (hf1.same i (by omega) (.inl d4)).trans hh.head
  refine wp_reg ?_
  refine wl_move hu1 ?_
  refine wl_move (v := .int .i32 (k : Nat)) (by rw [aget_put_other _ _ _ _ (by omega)]; exact hi1) ?_
  refine wl_move (v := x) (by rw [aget_put_other _ _ _ v (by omega), aget_put_other _ _ _ v (by omega)]; exact hx) ?_
  refine wl_index32 (k := k) hT hE hkn (by rw [aget_put_other _ _ _ t1 (by omega), aget_put_other _ _ _ t1 (by omega)]; exact aget_put_same _ _ _ (by omega)) (by rw [aget_put_other _ _ _ (t1 + 1) (by omega)]; exact aget_put_same _ _ _ (by simp only [size_put]; omega)) ?_
  rw [Addr.add_lit, Nat.zero_add]
  refine wl_store (w' := w1.setCell ⟨p, k * 1, none⟩ x) ?_ ?_
  · rw [aget_eval, aget_eval, aget_put_same _ _ _ (by simp only [size_put]; omega), aget_put_other _ _ _ (t1 + 2) (by omega), aget_put_same _ _ _ (by simp only [size_put]; omega)]
    exact run_store_blk hU hst1.blk hl hone
  · refine wpList_nil (hq _ _ _ (hst1.store (k * 1) x) (hf1.trans (((((Fr.refl N lo t nt a1).put _ _ (by omega)).put _ _ (by omega)).put _ _ (by omega)).put _ _ (by omega))) ((keeps_rb hk1).trans (keeps_b w1 _ _)) (SameOut.set cs (k * 1) x) fun gv r hv => ?_)
    have hb : Keeps O w1 (w1.setCell ⟨p, k * 1, none⟩ x) := (Keeps.refl O w1).setCell hst.bO _
    exact ((hlv gv r hv).keeps hb).rep ((hst1.blk.set (k * 1) x).cell_some (by rw [List.getElem?_set_self hl]))
theorem rdEl_var {u i bp rs v r y : Nat} {q : String} {g : Array Edge} {z : Value} {c : Code} {esz : Nat} {sch : Sch} (hk : KOK N lo t ((bp, .int .i64 0) :: K)) (hD : Dims N nt lo t) (hd : lo ≤ v ∧ v < N ∧ i < lo ∧ u < lo) (h : RdEl RT P N nt gE E ver flex K lo t u i bp rs c esz sch) :
    RdEl RT P N nt gE E ver flex K lo t u i bp rs ((Code.region r #[⟨some v, .assign (.const z), y, q, g, none⟩] false).seq c) esz sch := by
  intro O rb p Tp n cap k a w cs st Q hN hh hkn hst hF hq hr
  have x1 := hD.dOne; have x2 := hD.dLo; have x3 := hD.dT; have x4 := hD.dN
  refine wp_seq (wp_reg (wl_assign_c (wpList_nil ?_)))
  have hf : Fr N lo t nt a (a.put (some v) z) := (Fr.refl N lo t nt a).put _ _ (by omega)
  have hh' : Holds ((i, .int .i32 (k : Nat)) :: (u, .slice (some ⟨p, 0, none⟩) n cap) :: (bp, .pointer (some ⟨rb, 0, none⟩)) :: K) (a.put (some v) z) := by
    intro q hq
    have hq' := hq
    simp only [List.mem_cons] at hq'
    have hlow : q.1 ≠ nt ∧ (q.1 < lo ∨ (N ≤ q.1 ∧ q.1 < t)) := by
      rcases hq' with rfl | rfl | rfl | hq'
      · exact ⟨by simp only; omega, .inl hd.2.2.1⟩
      · exact ⟨by simp only; omega, .inl hd.2.2.2⟩
      · have := hk (bp, .int .i64 0) (by simp); exact ⟨by simp only at this ⊢; omega, this.2⟩
      · have := hk q (by simp [hq']); exact ⟨by omega, this.2⟩
    exact (hf.same q.1 hlow.1 hlow.2).trans (hh q hq)
  exact h O rb p Tp n cap k _ w cs st Q (hf.size.trans hN) hh' hkn hst hF (fun a' w' cs' k1 k2 => hq a' w' cs' k1 (hf.trans k2)) (fun a' w' k1 k2 k3 => hr a' w' k1 k2 (k3.trans hf.defers))
theorem RdEl.mono {u i bp rs lo' t' esz : Nat} {c : Code} {sch : Sch} (h : RdEl RT P N nt gE E ver flex K lo' t' u i bp rs c esz sch) (h1 : lo ≤ lo') (h2 : t ≤ t') : RdEl RT P N nt gE E ver flex K lo t u i bp rs c esz sch :=
  fun O rb p Tp n cap k a w cs st Q hN hh hkn hst hF hq hr => h O rb p Tp n cap k a w cs st Q hN hh hkn hst hF (fun a' w' cs' k1 k2 => hq a' w' cs' k1 (k2.mono h1 h2)) hr
/-- What is asked of the function that reads tags: a map, or none. -/
def TagsRd (RT : RTags) (P : Program) (F : Nat) : Prop := ∀ (O : List Nat) (rb : Nat) (w : World) (st : Option (List UInt8)), rb ∈ O → (∀ k, k ∈ O → k < w.heap.size) → Rdr O w rb st →
  Calls P F #[.pointer (some ⟨rb, 0, none⟩)] w fun e w' => ∃ m, e = .returned (.agg #[.map m]) ∧ Rdr O w' rb ((st.bind rdTagsRaw).map (·.2)) ∧ Keeps [rb] w w' ∧ ∀ l r, st.bind rdTagsRaw = some (l, r) → ∀ (w2 : World) (b o : Nat), Keeps O w' w2 → w2.cell? ⟨b, o, none⟩ = some (.map m) → RT O w2 b o (tagSort l)
theorem run_store_agg {U : Nat} (hU : ∃ i, P.info? U = some i ∧ i.size = 1) {w : World} {b i T : Nat} {c : List Value} {y : Value} (h : Blk w b c T) (hi : i < c.length) (hy : y.oneCell' = true) :
    (Instr.storeAt U (.pointer (some ⟨b, i, none⟩)) (.agg #[y])).run P w = .ok () (w.setCell ⟨b, i, none⟩ y) := by
  obtain ⟨t, ht, hs⟩ := hU
  have h1 := h.cell_some (List.getElem?_eq_getElem hi)
  have h2 := h.frozen i
  simp [Instr.storeAt, Instr.sureAddr, storeVar, sizeOf, typeInfo, ht, hs, Value.cells, storeCells, Addr.add]
  rw [run_store _ _ _ _ _ hy, h1]
  simp [h2]
theorem rdS_tags {s bp rs sf t0 t1 F T' k U off n r0 r1 y1 y2 y3 y4 y5 y6 : Nat} {q1 q2 q3 q4 q5 q6 : String} {g1 g2 g3 g4 g5 g6 : Array Edge} {at_ : Array TypeId}
    (hk : KOK N lo t ((s, .int .i64 0) :: (bp, .int .i64 0) :: K)) (hf : (sf, Value.bool flex) ∈ K) (hFA : FieldAt P T' k off) (hU : ∃ i, P.info? U = some i ∧ i.size = 1) (he : Enters P F) (hR0 : ∀ O w b o, w.cell? ⟨b, o, none⟩ = some (.map none) → RT O w b o []) (hTg : TagsRd RT P F) (hD : Dims N nt lo t) (hd : t ≤ t0 ∧ t0 < nt ∧ t ≤ t1 ∧ t1 + 3 < nt ∧ bp < lo ∧ n ≤ off) :
    RdS RT P N nt gE E ver flex K lo t s bp rs ((Code.region r0 #[⟨some t0, .move (.tmp sf), y1, q1, g1, none⟩] false).seq (.cond (.tmp t0)
      (Code.region r1 #[⟨some t1, .move (.tmp s), y2, q2, g2, none⟩, ⟨some (t1 + 1), .call { callee := .value (.func F), args := #[.tmp bp], argTypes := at_ }, y3, q3, g3, none⟩, ⟨some (t1 + 2), .nilCheck (.tmp t1), y4, q4, g4, none⟩, ⟨some (t1 + 3), .fieldAddr T' (.tmp (t1 + 2)) k, y5, q5, g5, none⟩,
        ⟨none, .store U (.tmp (t1 + 3)) (.tmp (t1 + 1)), y6, q6, g6, none⟩] false) .skip)) n (.tags off) := by
  intro O rb b o T a w cs st Q hN hh hst hF hq hr
  obtain ⟨d1, d2, d3, d4, d5, d6⟩ := hd
  have x1 := hD.dOne; have x2 := hD.dLo; have x3 := hD.dT; have x4 := hD.dN
  have hc : cs[o + off]? = some (.map none) := hF
  have hlt : o + off < cs.length := (List.getElem?_eq_some_iff.1 hc).1
  refine wp_seq (reg_flag (x0 := nt) (lo := lo) hN (hh _ (List.mem_cons_of_mem _ (List.mem_cons_of_mem _ hf))) ⟨hD.dT, d1, d2, hD.dLo⟩ fun a1 hf1 hx => ?_)
  have hh1 := hh.frR (kokR hk) hD hf1
  have hN1 := hf1.size.trans hN
  cases flex
  · refine wp_cond_false hx (wp_skip (hq a1 w cs ?_ hf1 (Keeps.refl _ _) (SameOut.refl _ _ _) fun v r hv => ?_))
    · cases st <;> exact hst
    · cases st with
      | none => cases hv
      | some bs =>
        simp only [Option.bind_some, rd, rdTags, Bool.false_eq_true, if_false, Pr.pure, Option.some.injEq, Prod.mk.injEq] at hv
        obtain ⟨rfl, rfl⟩ := hv
        exact hR0 _ _ _ _ (hst.blk.cell_some hc)
  · refine wp_cond_true hx (wp_reg ?_)
    refine wl_move hh1.head ?_
    refine wl_call (R := fun e w' => ∃ m, e = .returned (.agg #[.map m]) ∧ Rdr O w' rb ((st.bind rdTagsRaw).map (·.2)) ∧ Keeps [rb] w w' ∧ ∀ l r, st.bind rdTagsRaw = some (l, r) → ∀ (w2 : World) (b o : Nat), Keeps O w' w2 → w2.cell? ⟨b, o, none⟩ = some (.map m) → RT O w2 b o (tagSort l)) he ?_ ?_
    · simp only [List.map_toArray, List.map_cons, List.map_nil, aget_eval]
      rw [aget_put_other _ _ _ bp (by omega), hh1.tail.head]
      exact hTg O rb w st hst.rbO hst.lt hst.rdr
    rintro en w2 ⟨m, rfl, hr2, hk2, hm⟩
    refine ⟨_, rfl, ?_⟩
    refine wl_nilCheck (ad := ⟨b, o, none⟩) (by rw [aget_put_other _ _ _ t1 (by omega)]; exact aget_put_same _ _ _ (by omega)) ?_
    refine wl_fieldAddr hFA (aget_put_same _ _ _ (by simp only [size_put]; omega)) ?_
    rw [Addr.add_lit]
    have hst2 := hst.call hr2 hk2
    have e0 : st.bind (rd ver true (.tags off)) = (st.bind rdTagsRaw).bind fun q => some (.tags (tagSort q.1), q.2) := by
      change st.bind (rdTags true) = _
      unfold rdTags
      simp only [if_true]
      exact bind_st st rdTagsRaw _
    refine wl_store (w' := w2.setCell ⟨b, o + off, none⟩ (.map m)) ?_ ?_
    · rw [aget_eval, aget_eval, aget_put_same _ _ _ (by simp only [size_put]; omega), aget_put_other _ _ _ (t1 + 1) (by omega), aget_put_other _ _ _ (t1 + 1) (by omega), aget_put_same _ _ _ (by simp only [size_put]; omega)]
      exact run_store_agg hU hst2.blk hlt rfl
    · have hkO : Keeps O w2 (w2.setCell ⟨b, o + off, none⟩ (.map m)) := (Keeps.refl O w2).setCell hst.bO _
      refine wpList_nil (hq _ (w2.setCell ⟨b, o + off, none⟩ (.map m)) (cs.set (o + off) (.map m)) ?_ (hf1.trans (((((Fr.refl N lo t nt a1).put _ _ (by omega)).put _ _ (by omega)).put _ _ (by omega)).put _ _ (by omega))) ((keeps_rb hk2).trans (keeps_b w2 _ _)) ((SameOut.set cs (o + off) (.map m)).mono (by omega) (by simp only [top]; omega)) fun v r hv => ?_)
      · rw [e0]
        have := hst2.store (o + off) (.map m)
        cases hx2 : st.bind rdTagsRaw with
        | none => rw [hx2] at this; exact this
        | some q => rw [hx2] at this; exact this
      · rw [e0] at hv
        cases hx2 : st.bind rdTagsRaw with
        | none => rw [hx2] at hv; cases hv
        | some q =>
          rw [hx2] at hv
          simp only [Option.bind_some, Option.some.injEq, Prod.mk.injEq] at hv
          obtain ⟨rfl, rfl⟩ := hv
          exact hm q.1 q.2 hx2 _ _ _ hkO ((hst2.blk.set (o + off) (.map m)).cell_some (by rw [List.getElem?_set_self hlt]))
end
end Go.Proofs.YtfchajjllhndlabGreatDoor

/- The code that writes a part, second half: tags, counts, things of lists, 16 octets, the end, the whole function. Any program. -/
namespace Go.Proofs.YtfchajjllhndlabGreatDoor
open Go Go.RowKit
set_option linter.unusedVariables false

theorem St.cell' {nt : Nat} {w0 : World} {a : Act} {w : World} {bs : List UInt8} (h : St nt w0 a w bs) {b o : Nat} {x : Value} (hc : w0.cell? ⟨b, o, none⟩ = some x) : w.cell? ⟨b, o, none⟩ = some x := h.cell hc

section
variable {RT : RTags} {P : Program} {N nt : Nat} {w0 : World} {K : Slots} {lo t : Nat}

/-- What is asked of the functions on tags: how many there are; what is written of them. -/
def TagsOK (RT : RTags) (P : Program) (FLen FEach : Nat) : Prop :=
  ∀ (w0 : World) (b o : Nat) (l : List (Nat × List UInt8)), RT [] w0 b o l → l.length ≤ 4294967295 ∧
    (∀ w, Below w0.heap.size w0 w → Calls P FLen #[.pointer (some ⟨b, o, none⟩)] w fun e w' => e = .returned (.int .i64 l.length) ∧ w = w') ∧
    (∀ (w : World) (v : Value) (bs : List UInt8), Below w0.heap.size w0 w → Own w0.heap.size w v bs → bs.length + (apTags l).length ≤ lim → Calls P FEach #[.pointer (some ⟨b, o, none⟩), v] w (Appended w0.heap.size w (bs ++ apTags l)))

theorem appS_tags {ver : Int} {flex : Bool} {s sf t0 t1 t2 k k' off T T' FLen FEach FU I U r0 r1 r2 ty0 ty1 ty2 ty3 ty4 ty5 ty6 ty7 ty8 ty9 ty10 ty11 ty12 ty13 ty14 ty15 J1 J2 : Nat} {p0 p1 p2 p3 p4 p5 p6 p7 p8 p9 p10 p11 p12 p13 p14 p15 : String} {e0 e1 e2 e3 e4 e5 e6 e7 e8 e9 e10 e11 e12 e13 e14 e15 : Array Edge} {at1 at2 at3 : Array TypeId}
    (hk : KOK N lo t K) (hs : s ≠ 1 ∧ s < lo) (hf : (sf, Value.bool flex) ∈ K) (hT : FieldAt P T k off) (hT' : FieldAt P T' k' off) (hI : P.underlying I = some (.int .i64)) (hU : P.underlying U = some (.int .u32))
    (hL : Enters P FLen) (hE : Enters P FEach) (hV : Enters P FU) (hTags : TagsOK RT P FLen FEach) (hUv : ∀ n : Nat, n ≤ 4294967295 → AppC P FU (.int .u32 n) (uv n)) (hD : Dims N nt lo t)
    (hd : t ≤ t0 ∧ t0 < nt ∧ t ≤ t1 ∧ t1 + 7 < nt ∧ t ≤ t2 ∧ t2 + 4 < nt) :
    AppS RT P N nt ver flex K lo t s
      ((Code.region r0 #[⟨some t0, .move (.tmp sf), ty0, p0, e0, none⟩] false).seq (.cond (.tmp t0)
        ((Code.region r1 #[⟨some t1, .move (.tmp 1), ty1, p1, e1, none⟩, ⟨some (t1 + 1), .move (.tmp s), ty2, p2, e2, none⟩, ⟨some (t1 + 2), .nilCheck (.tmp (t1 + 1)), ty3, p3, e3, none⟩, ⟨some (t1 + 3), .fieldAddr T (.tmp (t1 + 2)) k, ty4, p4, e4, none⟩,
          ⟨some (t1 + 4), .call { callee := .value (.func FLen), args := #[.tmp (t1 + 3)], argTypes := at1 }, ty5, p5, e5, none⟩, ⟨some (t1 + 5), .convert I U (.tmp (t1 + 4)), ty6, p6, e6, none⟩,
          ⟨some (t1 + 6), .binOp .add J1 (.const (.int .u32 0)) (.tmp (t1 + 5)) J2, ty7, p7, e7, none⟩, ⟨some (t1 + 7), .call { callee := .value (.func FU), args := #[.tmp t1, .tmp (t1 + 6)], argTypes := at2 }, ty8, p8, e8, none⟩, ⟨some 1, .assign (.tmp (t1 + 7)), ty9, p9, e9, none⟩] false).seq
        (.region r2 #[⟨some t2, .move (.tmp s), ty10, p10, e10, none⟩, ⟨some (t2 + 1), .nilCheck (.tmp t2), ty11, p11, e11, none⟩, ⟨some (t2 + 2), .fieldAddr T' (.tmp (t2 + 1)) k', ty12, p12, e12, none⟩, ⟨some (t2 + 3), .move (.tmp 1), ty13, p13, e13, none⟩,
          ⟨some (t2 + 4), .call { callee := .value (.func FEach), args := #[.tmp (t2 + 2), .tmp (t2 + 3)], argTypes := at3 }, ty14, p14, e14, none⟩, ⟨some 1, .assign (.tmp (t2 + 4)), ty15, p15, e15, none⟩] false))
        .skip)) (.tags off) := by
  intro w0 b o v hr
  cases v <;> simp only [Rep] at hr <;> try exact hr.elim
  rename_i l
  obtain ⟨d1, d2, d3, d4, d5, d6⟩ := hd
  obtain ⟨hlen, hL1, hE1⟩ := hTags w0 b (o + off) l hr
  have g1 := hD.dOne; have g2 := hD.dLo; have g3 := hD.dT; have g4 := hD.dN
  refine app_flag (hk.cons ⟨hs.1, .inl hs.2⟩) (List.mem_cons_of_mem _ hf) hD ⟨d1, d2⟩ (fun hfl => ?_) (fun hfl => ?_)
  · subst hfl
    refine (App.seq (n1 := uv l.length) (n2 := apTags l) (hk.cons ⟨hs.1, .inl hs.2⟩) ?_ ?_).of_eq (by simp [ap])
    · intro a w bs Q hst hh hl hq
      have hN := hst.size
      refine wp_reg ?_
      refine wl_move rfl ?_
      refine wl_move (v := .pointer (some ⟨b, o, none⟩)) (by rw [aget_put_other _ _ _ _ (by omega)]; exact hh.head) ?_
      refine wl_nilCheck (aget_put_same _ _ _ (by (first | rw [hN] | simp only [size_put, hN]); omega)) ?_
      refine wl_fieldAddr hT (aget_put_same _ _ _ (by (first | rw [hN] | simp only [size_put, hN]); omega)) ?_
      rw [Addr.add_lit]
      refine wl_call (R := fun e w' => e = .returned (.int .i64 l.length) ∧ w = w') hL ?_ ?_
      · simp only [List.map_toArray, List.map_cons, List.map_nil, aget_eval]
        rw [aget_put_same _ _ _ (by (first | rw [hN] | simp only [size_put, hN]); omega)]
        exact hL1 w hst.below
      rintro e w' ⟨rfl, rfl⟩
      refine ⟨_, rfl, ?_⟩
      refine wl_value (v := .int .u32 l.length) (w' := w) rfl ?_ ?_
      · have e1 : ∀ A : Act, aget A (t1 + 4) = .int .i64 l.length → (execOp A.eval ⟨some (t1 + 5), .convert I U (.tmp (t1 + 4)), ty6, p6, e6, none⟩).run P w = .ok (.value (.int .u32 l.length)) w := by
          intro A hA
          have e2 : A.eval (.tmp (t1 + 4)) = .int .i64 l.length := hA
          have e3 : IntKind.u32.wrap (l.length : Int) = l.length := by rw [IntKind.wrap_u32]; omega
          simp [execOp, e2, convert, run_underlying hI, run_underlying hU, Conv.intToInt, e3]
        exact e1 _ (aget_put_same _ _ _ (by (first | rw [hN] | simp only [size_put, hN]); omega))
      refine wl_value (v := .int .u32 l.length) (w' := w) rfl ?_ ?_
      · have e1 : ∀ A : Act, aget A (t1 + 5) = .int .u32 l.length → (execOp A.eval ⟨some (t1 + 6), .binOp .add J1 (.const (.int .u32 0)) (.tmp (t1 + 5)) J2, ty7, p7, e7, none⟩).run P w = .ok (.value (.int .u32 l.length)) w := by
          intro A hA
          have e2 : A.eval (.tmp (t1 + 5)) = .int .u32 l.length := hA
          have e4 : A.eval (.const (.int .u32 0)) = .int .u32 0 := rfl
          have e3 : IntKind.u32.wrap (l.length : Int) = l.length := by rw [IntKind.wrap_u32]; omega
          simp [execOp, e2, e4, eqGuard_at_int, binOp, Op.intArith, e3]
        exact e1 _ (aget_put_same _ _ _ (by (first | rw [hN] | simp only [size_put, hN]); omega))
      refine wl_call (R := Appended w0.heap.size w (bs ++ uv l.length)) hV ?_ ?_
      · simp only [List.map_toArray, List.map_cons, List.map_nil, aget_eval]
        rw [aget_put_other _ _ _ _ (by omega), aget_put_other _ _ _ _ (by omega), aget_put_other _ _ _ _ (by omega), aget_put_other _ _ _ _ (by omega), aget_put_other _ _ _ _ (by omega), aget_put_other _ _ _ _ (by omega),
          aget_put_same _ _ _ (by (first | rw [hN] | simp only [size_put, hN]); omega), aget_put_same _ _ _ (by (first | rw [hN] | simp only [size_put, hN]); omega)]
        exact hUv l.length (by omega) w0.heap.size w _ bs hst.own hst.below.size hl
      rintro e w' ⟨v', rfl, hown, hbel⟩
      refine ⟨v', rfl, ?_⟩
      refine wl_assign (aget_put_same _ _ _ (by (first | rw [hN] | simp only [size_put, hN]); omega)) ?_
      refine wpList_nil (hq _ _ ⟨by simp only [size_put, hN], ?_, hst.below.trans hbel⟩ (((((((((((Fr.refl N lo t 1 a).put _ _ (by omega)).put _ _ (by omega)).put _ _ (by omega)).put _ _ (by omega)).put _ _ (by omega)).put _ _ (by omega)).put _ _ (by omega)).put _ _ (by omega)).put _ _ (by omega))))
      rw [aget_put_same _ _ _ (by (first | rw [hN] | simp only [size_put, hN]); omega)]
      exact hown
    · intro a w bs Q hst hh hl hq
      have hN := hst.size
      refine wp_reg ?_
      refine wl_move (v := .pointer (some ⟨b, o, none⟩)) hh.head ?_
      refine wl_nilCheck (aget_put_same _ _ _ (by (first | rw [hN] | simp only [size_put, hN]); omega)) ?_
      refine wl_fieldAddr hT' (aget_put_same _ _ _ (by (first | rw [hN] | simp only [size_put, hN]); omega)) ?_
      rw [Addr.add_lit]
      refine wl_move (v := aget a 1) (by rw [aget_put_other _ _ _ _ (by omega), aget_put_other _ _ _ _ (by omega), aget_put_other _ _ _ _ (by omega)]) ?_
      refine wl_call (R := Appended w0.heap.size w (bs ++ apTags l)) hE ?_ ?_
      · simp only [List.map_toArray, List.map_cons, List.map_nil, aget_eval]
        rw [aget_put_other _ _ _ _ (by omega), aget_put_same _ _ _ (by (first | rw [hN] | simp only [size_put, hN]); omega), aget_put_same _ _ _ (by (first | rw [hN] | simp only [size_put, hN]); omega)]
        exact hE1 w _ bs hst.below hst.own hl
      rintro e w' ⟨v', rfl, hown, hbel⟩
      refine ⟨v', rfl, ?_⟩
      refine wl_assign (aget_put_same _ _ _ (by (first | rw [hN] | simp only [size_put, hN]); omega)) ?_
      refine wpList_nil (hq _ _ ⟨by simp only [size_put, hN], ?_, hst.below.trans hbel⟩ (((((((Fr.refl N lo t 1 a).put _ _ (by omega)).put _ _ (by omega)).put _ _ (by omega)).put _ _ (by omega)).put _ _ (by omega)).put _ _ (by omega)))
      rw [aget_put_same _ _ _ (by (first | rw [hN] | simp only [size_put, hN]); omega)]
      exact hown
  · subst hfl
    exact App.skip.of_eq (by simp [ap])

/-- 'dst = F(dst, len(v))'. -/
theorem app_len1 {u t1 F r T E ty1 ty2 ty3 ty4 ty5 : Nat} {p1 p2 p3 p4 p5 : String} {e1 e2 e3 e4 e5 : Array Edge} {at_ : Array TypeId} {ad : Option Addr} {n cap : Nat} {new : List UInt8}
    (hT : P.underlying T = some (.slice E)) (he : Enters P F) (hC : AppC P F (.int .i64 n) new) (hD : Dims N nt lo t) (hd : t ≤ t1 ∧ t1 + 3 < nt ∧ u ≠ t1) :
    App P N nt w0 ((u, .slice ad n cap) :: K) lo t (Code.region r #[⟨some t1, .move (.tmp 1), ty1, p1, e1, none⟩, ⟨some (t1 + 1), .move (.tmp u), ty2, p2, e2, none⟩,
      ⟨some (t1 + 2), .call { callee := .builtin .len, args := #[.tmp (t1 + 1)], argTypes := #[T] }, ty5, p5, e5, none⟩,
      ⟨some (t1 + 3), .call { callee := .value (.func F), args := #[.tmp t1, .tmp (t1 + 2)], argTypes := at_ }, ty3, p3, e3, none⟩, ⟨some 1, .assign (.tmp (t1 + 3)), ty4, p4, e4, none⟩] false) new := by
  intro a w bs Q hst hh hl hq
  obtain ⟨g1, g2, g3, g4⟩ := hD
  obtain ⟨h1, h2, h3⟩ := hd
  have hN := hst.size
  refine wp_reg ?_
  refine wl_move rfl ?_
  refine wl_move (v := .slice ad n cap) (by rw [aget_put_other _ _ _ _ (by omega)]; exact hh.head) ?_
  refine wl_len_slice hT (aget_put_same _ _ _ (by (first | rw [hN] | simp only [size_put, hN]); omega)) ?_
  refine wl_call (R := Appended w0.heap.size w (bs ++ new)) he ?_ ?_
  · simp only [List.map_toArray, List.map_cons, List.map_nil, aget_eval]
    rw [aget_put_other _ _ _ _ (by omega), aget_put_other _ _ _ _ (by omega), aget_put_same _ _ _ (by (first | rw [hN] | simp only [size_put, hN]); omega), aget_put_same _ _ _ (by (first | rw [hN] | simp only [size_put, hN]); omega)]
    exact hC w0.heap.size w _ bs hst.own hst.below.size hl
  · rintro e w' ⟨v', rfl, hown, hbel⟩
    refine ⟨v', rfl, ?_⟩
    refine wl_assign (aget_put_same _ _ _ (by (first | rw [hN] | simp only [size_put, hN]); omega)) ?_
    refine wpList_nil (hq _ _ ⟨by simp only [size_put, hN], ?_, hst.below.trans hbel⟩ ((((((Fr.refl N lo t 1 a).put _ _ (by omega)).put _ _ (by omega)).put _ _ (by omega)).put _ _ (by omega)).put _ _ (by omega)))
    rw [aget_put_same _ _ _ (by (first | rw [hN] | simp only [size_put, hN]); omega)]
    exact hown

/-- Function F, handed a count and whether it is null, appends new. -/
def AppC2 (P : Program) (f : Nat) (n : Nat) (nul : Bool) (new : List UInt8) : Prop :=
  ∀ (base : Nat) (w : World) (v : Value) (bs : List UInt8), Own base w v bs → base ≤ w.heap.size → bs.length + new.length ≤ lim → Calls P f #[v, .int .i64 n, .bool nul] w (Appended base w (bs ++ new))

theorem run_equalIn_slice_nil (w : World) (d : Nat) {T E : Nat} (hT : P.underlying T = some (.slice E)) (ad : Option Addr) (n c : Nat) : (Op.equalIn (d + 1) T (.slice ad n c) (.slice none 0 0)).run P w = .ok ad.isNone w := by
  cases ad <;> simp [Op.equalIn, run_underlying hT]
theorem run_eql_slice_nil' (w : World) {T E : Nat} (hT : P.underlying T = some (.slice E)) (ad : Option Addr) (n c : Nat) : (binOp .eql T (.slice ad n c) (.slice none 0 0)).run P w = .ok (.bool ad.isNone) w := by
  simp only [binOp, Op.equal, Op.maxDepth]
  simp [run_equalIn_slice_nil w 9999 hT ad n c]

/-- 'dst = F(dst, len(v), v == nil)'. -/
theorem app_len2 {u t1 F r T E T2 U2 ty1 ty2 ty3 ty4 ty5 ty6 ty7 : Nat} {p1 p2 p3 p4 p5 p6 p7 : String} {e1 e2 e3 e4 e5 e6 e7 : Array Edge} {at_ : Array TypeId} {ad : Option Addr} {n cap : Nat} {new : List UInt8}
    (hT : P.underlying T = some (.slice E)) (hT2 : P.underlying T2 = some (.slice E)) (he : Enters P F) (hC : AppC2 P F n ad.isNone new) (hD : Dims N nt lo t) (hd : t ≤ t1 ∧ t1 + 5 < nt ∧ u ≠ t1 ∧ u ≠ t1 + 1 ∧ u ≠ t1 + 2) :
    App P N nt w0 ((u, .slice ad n cap) :: K) lo t (Code.region r #[⟨some t1, .move (.tmp 1), ty1, p1, e1, none⟩, ⟨some (t1 + 1), .move (.tmp u), ty2, p2, e2, none⟩,
      ⟨some (t1 + 2), .call { callee := .builtin .len, args := #[.tmp (t1 + 1)], argTypes := #[T] }, ty5, p5, e5, none⟩, ⟨some (t1 + 3), .move (.tmp u), ty6, p6, e6, none⟩,
      ⟨some (t1 + 4), .binOp .eql T2 (.tmp (t1 + 3)) (.const (.slice none 0 0)) U2, ty7, p7, e7, none⟩,
      ⟨some (t1 + 5), .call { callee := .value (.func F), args := #[.tmp t1, .tmp (t1 + 2), .tmp (t1 + 4)], argTypes := at_ }, ty3, p3, e3, none⟩, ⟨some 1, .assign (.tmp (t1 + 5)), ty4, p4, e4, none⟩] false) new := by
  intro a w bs Q hst hh hl hq
  obtain ⟨g1, g2, g3, g4⟩ := hD
  obtain ⟨h1, h2, h3, h4, h5⟩ := hd
  have hN := hst.size
  refine wp_reg ?_
  refine wl_move rfl ?_
  refine wl_move (v := .slice ad n cap) (by rw [aget_put_other _ _ _ _ (by omega)]; exact hh.head) ?_
  refine wl_len_slice hT (aget_put_same _ _ _ (by (first | rw [hN] | simp only [size_put, hN]); omega)) ?_
  refine wl_move (v := .slice ad n cap) (by rw [aget_put_other _ _ _ _ (by omega), aget_put_other _ _ _ _ (by omega), aget_put_other _ _ _ _ (by omega)]; exact hh.head) ?_
  refine wl_bin (r := .bool ad.isNone) (aget_put_same _ _ _ (by (first | rw [hN] | simp only [size_put, hN]); omega)) (eqGuard_at_slice ..) (run_eql_slice_nil' w hT2 ad n cap) ?_
  refine wl_call (R := Appended w0.heap.size w (bs ++ new)) he ?_ ?_
  · simp only [List.map_toArray, List.map_cons, List.map_nil, aget_eval]
    rw [aget_put_other _ _ _ _ (by omega), aget_put_other _ _ _ _ (by omega), aget_put_other _ _ _ _ (by omega), aget_put_other _ _ _ _ (by omega), aget_put_same _ _ _ (by (first | rw [hN] | simp only [size_put, hN]); omega),
      aget_put_other _ _ _ _ (by omega), aget_put_other _ _ _ _ (by omega), aget_put_same _ _ _ (by (first | rw [hN] | simp only [size_put, hN]); omega), aget_put_same _ _ _ (by (first | rw [hN] | simp only [size_put, hN]); omega)]
    exact hC w0.heap.size w _ bs hst.own hst.below.size hl
  · rintro e w' ⟨v', rfl, hown, hbel⟩
    refine ⟨v', rfl, ?_⟩
    refine wl_assign (aget_put_same _ _ _ (by (first | rw [hN] | simp only [size_put, hN]); omega)) ?_
    refine wpList_nil (hq _ _ ⟨by simp only [size_put, hN], ?_, hst.below.trans hbel⟩ ((((((((Fr.refl N lo t 1 a).put _ _ (by omega)).put _ _ (by omega)).put _ _ (by omega)).put _ _ (by omega)).put _ _ (by omega)).put _ _ (by omega)).put _ _ (by omega)))
    rw [aget_put_same _ _ _ (by (first | rw [hN] | simp only [size_put, hN]); omega)]
    exact hown

/-- A part of a list: 'v := &v[i]', and what is written of it. -/
theorem appEl_part {ver : Int} {flex : Bool} {u i v t1 T E r ty1 ty2 ty3 ty4 esz lo' t' : Nat} {p1 p2 p3 p4 : String} {e1 e2 e3 e4 : Array Edge} {c : Code} {e : Sch}
    (hk : KOK N lo t K) (hT : P.underlying T = some (.slice E)) (hE : ∃ i, P.info? E = some i ∧ i.size = esz) (hD : Dims N nt lo t) (hd : t ≤ t1 ∧ t1 + 2 < nt ∧ lo ≤ v ∧ v < N ∧ v < lo' ∧ lo ≤ lo' ∧ t ≤ t' ∧ i ≠ t1)
    (h : AppS RT P N nt ver flex K lo' t' v c e) :
    AppEl RT P N nt ver flex K lo t u i ((Code.region r #[⟨some t1, .move (.tmp u), ty1, p1, e1, none⟩, ⟨some (t1 + 1), .move (.tmp i), ty2, p2, e2, none⟩, ⟨some (t1 + 2), .indexAddr T (.tmp t1) (.tmp (t1 + 1)), ty3, p3, e3, none⟩,
      ⟨some v, .assign (.tmp (t1 + 2)), ty4, p4, e4, none⟩] false).seq c) esz e := by
  intro w0 p q n cap k gv hkn hp hrep a w bs Q hst hh hl hq
  obtain ⟨d1, d2, d3, d4, d5, d6, d7, d8⟩ := hd
  have g2 := hD.dLo; have g3 := hD.dT; have g4 := hD.dN
  have hN := hst.size
  refine wp_seq (wp_reg ?_)
  refine wl_move hh.tail.head ?_
  refine wl_move (v := .int .i64 k) (by rw [aget_put_other _ _ _ _ (by omega)]; exact hh.head) ?_
  refine wl_index (k := k) hT hE hkn (by rw [aget_put_other _ _ _ _ (by omega)]; exact aget_put_same _ _ _ (by (first | rw [hN] | simp only [size_put, hN]); omega)) (aget_put_same _ _ _ (by (first | rw [hN] | simp only [size_put, hN]); omega)) ?_
  rw [Addr.add_lit]
  refine wl_assign (aget_put_same _ _ _ (by (first | rw [hN] | simp only [size_put, hN]); omega)) ?_
  refine wpList_nil ?_
  simp only [Exit.then]
  have hfr0 : Fr N lo t nt a ((((a.put (some t1) (.slice (some ⟨p, q, none⟩) n cap)).put (some (t1 + 1)) (.int .i64 k)).put (some (t1 + 2)) (.pointer (some ⟨p, q + k * esz, none⟩))).put (some v) (.pointer (some ⟨p, q + k * esz, none⟩))) :=
    ((((Fr.refl N lo t nt a).put _ _ (by omega)).put _ _ (by omega)).put _ _ (by omega)).put _ _ (by omega)
  refine h w0 p (q + k * esz) gv hrep _ w bs _ (hst.fr hfr0 hD) ((hh.tail.tail.fr hk (hfr0.to1 hD)).cons (aget_put_same _ _ _ (by (first | rw [hN] | simp only [size_put, hN]); omega))) hl fun a2 w2 hs2 hf2 => hq a2 w2 hs2 ((hfr0.to1 hD).trans (hf2.mono d6 d7))

/-- A value of a list: 'v := v[i]', and what is written of it. -/
theorem appEl_leaf {ver : Int} {flex : Bool} {u i v t1 T E U r ty1 ty2 ty3 ty4 ty5 esz lo' t' : Nat} {p1 p2 p3 p4 p5 : String} {e1 e2 e3 e4 e5 : Array Edge} {c : Code} {lf : Leaf}
    (hk : KOK N lo t K) (hT : P.underlying T = some (.slice E)) (hE : ∃ i, P.info? E = some i ∧ i.size = esz) (hU : OneCell P U) (hD : Dims N nt lo t) (hd : t ≤ t1 ∧ t1 + 3 < nt ∧ lo ≤ v ∧ v < N ∧ v < lo' ∧ lo ≤ lo' ∧ t ≤ t' ∧ i ≠ t1) (hlf : lf ≠ .uuid)
    (h : AppL P N nt ver flex K lo' t' v c lf) :
    AppEl RT P N nt ver flex K lo t u i ((Code.region r #[⟨some t1, .move (.tmp u), ty1, p1, e1, none⟩, ⟨some (t1 + 1), .move (.tmp i), ty2, p2, e2, none⟩, ⟨some (t1 + 2), .indexAddr T (.tmp t1) (.tmp (t1 + 1)), ty3, p3, e3, none⟩,
      ⟨some (t1 + 3), .load U (.tmp (t1 + 2)), ty4, p4, e4, none⟩, ⟨some v, .assign (.tmp (t1 + 3)), ty5, p5, e5, none⟩] false).seq c) esz (.leaf lf) := by
  intro w0 p q n cap k gv hkn hp hrep a w bs Q hst hh hl hq
  obtain ⟨x, hc⟩ := RepLeaf.hasCell hrep hlf
  obtain ⟨d1, d2, d3, d4, d5, d6, d7, d8⟩ := hd
  have g2 := hD.dLo; have g3 := hD.dT; have g4 := hD.dN
  have hN := hst.size
  refine wp_seq (wp_reg ?_)
  refine wl_move hh.tail.head ?_
  refine wl_move (v := .int .i64 k) (by rw [aget_put_other _ _ _ _ (by omega)]; exact hh.head) ?_
  refine wl_index (k := k) hT hE hkn (by rw [aget_put_other _ _ _ _ (by omega)]; exact aget_put_same _ _ _ (by (first | rw [hN] | simp only [size_put, hN]); omega)) (aget_put_same _ _ _ (by (first | rw [hN] | simp only [size_put, hN]); omega)) ?_
  rw [Addr.add_lit]
  refine wl_load hU (aget_put_same _ _ _ (by (first | rw [hN] | simp only [size_put, hN]); omega)) (hst.cell hc) ?_
  refine wl_assign (aget_put_same _ _ _ (by (first | rw [hN] | simp only [size_put, hN]); omega)) ?_
  refine wpList_nil ?_
  simp only [Exit.then]
  have hfr0 : Fr N lo t nt a (((((a.put (some t1) (.slice (some ⟨p, q, none⟩) n cap)).put (some (t1 + 1)) (.int .i64 k)).put (some (t1 + 2)) (.pointer (some ⟨p, q + k * esz, none⟩))).put (some (t1 + 3)) x).put (some v) x) :=
    (((((Fr.refl N lo t nt a).put _ _ (by omega)).put _ _ (by omega)).put _ _ (by omega)).put _ _ (by omega)).put _ _ (by omega)
  refine h w0 p (q + k * esz) x gv hrep hc _ w bs _ (hst.fr hfr0 hD) ((hh.tail.tail.fr hk (hfr0.to1 hD)).cons (aget_put_same _ _ _ (by (first | rw [hN] | simp only [size_put, hN]); omega))) hl fun a2 w2 hs2 hf2 => hq a2 w2 hs2 ((hfr0.to1 hD).trans (hf2.mono d6 d7))

/-- The loop over a list that lies in slot u. -/
def AppRange (RT : RTags) (P : Program) (N nt : Nat) (ver : Int) (flex : Bool) (K : Slots) (lo t u : Nat) (c : Code) (esz : Nat) (e : Sch) : Prop :=
  ∀ (w0 : World) (l : List GV) (ad : Option Addr) (cap : Nat), l.length ≤ 2147483647 → (l ≠ [] → ∃ p q, ad = some ⟨p, q, none⟩ ∧ p < w0.heap.size ∧ ∀ i v, l[i]? = some v → Rep RT [] w0 ver flex e p (q + i * esz) v) →
    App P N nt w0 ((u, .slice ad l.length cap) :: K) lo t c (l.flatMap (ap ver flex e))

/-- A list: 'v := s.F', its count, the loop. -/
theorem appF_list {ver : Int} {flex : Bool} {s v t1 T k U off r ty1 ty2 ty3 ty4 ty5 lo' t' esz : Nat} {p1 p2 p3 p4 p5 : String} {e1 e2 e3 e4 e5 : Array Edge} {c1 c2 : Code} {nul : Option Int} {e : Sch}
    (hk : KOK N lo t K) (hT : FieldAt P T k off) (hU : OneCell P U) (hD : Dims N nt lo t) (hd : t ≤ t1 ∧ t1 + 3 < nt ∧ lo ≤ v ∧ v < N ∧ v < lo' ∧ lo ≤ lo' ∧ t ≤ t' ∧ v ≠ 1)
    (hlen : AppLen P N nt flex K lo' t' v c1 nul) (hnul : nul.isSome = true → AppNul P N nt flex K lo' t' v c1) (hr : AppRange RT P N nt ver flex K lo' t' v c2 esz e) :
    AppF RT P N nt ver flex K lo t s ((Code.region r #[⟨some t1, .move (.tmp s), ty1, p1, e1, none⟩, ⟨some (t1 + 1), .nilCheck (.tmp t1), ty2, p2, e2, none⟩, ⟨some (t1 + 2), .fieldAddr T (.tmp (t1 + 1)) k, ty3, p3, e3, none⟩,
      ⟨some (t1 + 3), .load U (.tmp (t1 + 2)), ty4, p4, e4, none⟩, ⟨some v, .assign (.tmp (t1 + 3)), ty5, p5, e5, none⟩] false).seq (c1.seq c2)) off (.list nul esz e) := by
  intro w0 b o gv hrep a w bs Q hst hh hl hq
  obtain ⟨d1, d2, d3, d4, d5, d6, d7, d8⟩ := hd
  have hk' : KOK N lo' t' K := fun p hp => ⟨(hk p hp).1, (hk p hp).2.elim (fun h => .inl (by omega)) (fun h => .inr ⟨h.1, by omega⟩)⟩
  cases gv <;> simp only [Rep] at hrep <;> try exact hrep.elim
  · obtain ⟨hns, hc⟩ := hrep
    refine wp_seq (reg_load (x0 := nt) (lo := lo) hT hU hst.size hh.head (by rw [Addr.add_lit]; exact hst.cell hc) ⟨hD.dT, d1, d2, d3, d4⟩ fun a' hfr0 hx => ?_)
    have hfr := hfr0.to1 hD
    refine (App.seq (hk'.cons ⟨d8, .inl d5⟩) (hnul hns w0) ((hr w0 [] none 0 (by simp) (by simp)))) a' w bs _ (hst.fr hfr0 hD) ((hh.tail.fr hk hfr).cons hx) (by simpa [ap] using hl) fun a2 w2 hs2 hf2 => ?_
    exact hq a2 w2 (by simpa [ap] using hs2) (hfr.trans (hf2.mono d6 d7))
  · rename_i l
    obtain ⟨ad, cap, hc, hlen', hns, hel⟩ := hrep
    refine wp_seq (reg_load (x0 := nt) (lo := lo) hT hU hst.size hh.head (by rw [Addr.add_lit]; exact hst.cell hc) ⟨hD.dT, d1, d2, d3, d4⟩ fun a' hfr0 hx => ?_)
    have hfr := hfr0.to1 hD
    refine (App.seq (hk'.cons ⟨d8, .inl d5⟩) (hlen w0 ad l.length cap hlen' (by cases hb : nul.isSome; exact .inl rfl; exact .inr (hns hb))) (hr w0 l ad cap hlen' fun hne => ?_)) a' w bs _ (hst.fr hfr0 hD) ((hh.tail.fr hk hfr).cons hx) (by simpa [ap] using hl) fun a2 w2 hs2 hf2 => ?_
    · obtain ⟨p, q, h1, -, h2, h3⟩ := hel hne
      exact ⟨p, q, h1, h2, h3⟩
    exact hq a2 w2 (by simpa [ap] using hs2) (hfr.trans (hf2.mono d6 d7))

/-- The code c appends new and returns the bytes. -/
def AppR (P : Program) (N nt : Nat) (w0 : World) (K : Slots) (rs : Nat) (c : Code) (new : List UInt8) : Prop :=
  ∀ (a : Act) (w : World) (bs : List UInt8) (Q : Exit → Act → World → Prop), St nt w0 a w bs → Holds K a → bs.length + new.length ≤ lim →
    (∀ a' w', St nt w0 a' w' (bs ++ new) → aget a' rs = aget a' 1 → a'.defers = a.defers → Q .ret a' w') → c.wp P Q a w
def AppRS (RT : RTags) (P : Program) (N nt : Nat) (ver : Int) (flex : Bool) (K : Slots) (rs s : Nat) (c : Code) (f : Sch) : Prop :=
  ∀ (w0 : World) (b o : Nat) (v : GV), Rep RT [] w0 ver flex f b o v → AppR P N nt w0 ((s, .pointer (some ⟨b, o, none⟩)) :: K) rs c (ap ver flex f v)
theorem AppR.seq {c1 c2 : Code} {n1 n2 : List UInt8} {rs : Nat} (hk : KOK N lo t K) (h1 : App P N nt w0 K lo t c1 n1) (h2 : AppR P N nt w0 K rs c2 n2) : AppR P N nt w0 K rs (c1.seq c2) (n1 ++ n2) := by
  intro a w bs Q hst hh hl hq
  simp only [List.length_append] at hl
  refine wp_seq (h1 a w bs _ hst hh (by omega) fun a1 w1 hst1 hf1 => ?_)
  refine h2 a1 w1 _ _ hst1 (hh.fr hk hf1) (by simp only [List.length_append]; omega) fun a2 w2 hst2 hr2 hd2 => ?_
  rw [List.append_assoc] at hst2
  exact hq a2 w2 hst2 hr2 (hd2.trans hf1.defers)
theorem AppR.ret {rs t1 r ty1 ty2 : Nat} {p1 p2 : String} {e1 e2 : Array Edge} (hd : t1 < nt ∧ 1 < t1 ∧ rs ≠ 1 ∧ rs < nt) :
    AppR P N nt w0 K rs ((Code.region r #[⟨some t1, .move (.tmp 1), ty1, p1, e1, none⟩, ⟨some rs, .assign (.tmp t1), ty2, p2, e2, none⟩] false).seq .ret) [] := by
  intro a w bs Q hst hh hl hq
  have hN := hst.size
  refine wp_seq (wp_reg ?_)
  refine wl_move rfl ?_
  refine wl_assign (aget_put_same _ _ _ (by (first | rw [hN] | simp only [size_put, hN]); omega)) ?_
  refine wpList_nil (wp_ret (hq _ w ⟨by simp only [size_put, hN], ?_, hst.below⟩ ?_ rfl))
  · rw [aget_put_other _ _ _ _ (by omega), aget_put_other _ _ _ _ (by omega), List.append_nil]
    exact hst.own
  · rw [aget_put_same _ _ _ (by (first | rw [hN] | simp only [size_put, hN]); omega), aget_put_other _ _ _ _ (by omega), aget_put_other _ _ _ _ (by omega)]
theorem appRS_cons {ver : Int} {flex : Bool} {s off rs : Nat} {vlo : Int} {vhi : Option Int} {c1 c2 : Code} {f rest : Sch} (hk : KOK N lo t K) (hs : s ≠ 1 ∧ s < lo) (h1 : AppFV RT P N nt ver flex K lo t s c1 off vlo vhi f) (h2 : AppRS RT P N nt ver flex K rs s c2 rest) :
    AppRS RT P N nt ver flex K rs s (c1.seq c2) (.cons off vlo vhi f rest) := by
  intro w0 b o v hr
  cases v <;> simp only [Rep] at hr <;> try exact hr.elim
  rename_i v vs
  exact AppR.seq (hk.cons ⟨hs.1, .inl hs.2⟩) (h1 w0 b o v hr.1) (h2 w0 b o vs hr.2)
theorem appRS_end {ver : Int} {flex : Bool} {s rs : Nat} {c1 c2 : Code} {f : Sch} (hk : KOK N lo t K) (hs : s ≠ 1 ∧ s < lo) (h1 : AppS RT P N nt ver flex K lo t s c1 f) (h2 : ∀ w0 K, AppR P N nt w0 K rs c2 []) : AppRS RT P N nt ver flex K rs s (c1.seq c2) f := by
  intro w0 b o v hr
  have := AppR.seq (hk.cons ⟨hs.1, .inl hs.2⟩) (h1 w0 b o v hr) (h2 w0 _)
  rw [List.append_nil] at this
  exact this
end
end Go.Proofs.YtfchajjllhndlabGreatDoor

/- The code that writes a part, third part: 16 octets, named numbers, a text that may be null from a version on, a part that may be null; the whole function. Any program. -/
namespace Go.Proofs.YtfchajjllhndlabGreatDoor
open Go Go.RowKit

section
variable {RT : RTags} {P : Program} {N nt : Nat} {w0 : World} {K : Slots} {lo t : Nat}

/-- A variable of type U is so many cells. -/
structure ManyCells (P : Program) (U n : Nat) : Prop where
  agg : ∀ w, (isAgg U).run P w = .ok true w
  info : ∃ i z, P.info? U = some i ∧ i.size = n ∧ i.zero = some (.agg z) ∧ z.size = n

theorem run_load_many {U n : Nat} (hU : ManyCells P U n) {w : World} {ad : Addr} {l : List Value} (hl : l.length = n) (hc : ∀ j v, l[j]? = some v → w.cell? (ad.add j) = some v) : (Instr.loadAt U (.pointer (some ad))).run P w = .ok (.agg l.toArray) w := by
  obtain ⟨i, z, hi, hs, -, -⟩ := hU.info
  have h := run_loadCells_list (P := P) w ad l hc
  rw [hl, ← hs] at h
  simp [Instr.loadAt, Instr.sureAddr, loadVar, hU.agg w, sizeOf, typeInfo, hi, h]
theorem run_alloc_many {U n : Nat} (hU : ManyCells P U n) (w : World) : ∃ z : Array Value, z.size = n ∧ (Instr.alloc U true (.tuple #[])).run P w = .ok (.pointer (some ⟨w.heap.size, 0, none⟩)) (w.alloc (.cells z U)) := by
  obtain ⟨i, z, hi, hs, hz, hzs⟩ := hU.info
  exact ⟨z, hzs, by simp [Instr.alloc, zeroValue, typeInfo, hi, hz, newVar, newRow, Value.cells]⟩
theorem run_store_many {U n : Nat} (hU : ManyCells P U n) {w : World} {g : Nat} {cur : Array Value} {T : Nat} (hg : w.heap[g]? = some (.cells cur T (0, 0))) (hcur : cur.size = n) {l : List Value} (hl : l.length = n) (h1 : ∀ v ∈ l, v.oneCell' = true) :
    (Instr.storeAt U (.pointer (some ⟨g, 0, none⟩)) (.agg l.toArray)).run P w = .ok () (w.setRow g l.toArray) := by
  obtain ⟨i, z, hi, hs, -, -⟩ := hU.info
  have h := run_storeCells_at P g 0 T l 0 cur w hg (by omega) h1
  have e : (cur.toList.take (0 + 0) ++ l ++ cur.toList.drop (0 + 0 + l.length)).toArray = l.toArray := by
    rw [List.drop_eq_nil_of_le (by simp; omega)]
    simp
  rw [e] at h
  simp [Instr.storeAt, Instr.sureAddr, storeVar, sizeOf, typeInfo, hi, Value.cells, hl, hs, h]

theorem reg_uuid2 {v t2 U F r' ty7 ty8 ty9 ty10 : Nat} {p7 p8 p9 p10 : String} {e7 e8 e9 e10 : Array Edge} {at_ : Array TypeId} {a a1 : Act} {w1 : World} {bs u : List UInt8} {g T0 : Nat} {Q : Exit → Act → World → Prop}
    (hU : ManyCells P U 16) (he : Enters P F) (hF : ∀ u : List UInt8, u.length = 16 → AppC P F (.agg (u.map byteV).toArray) u) (hu : u.length = 16) (hblk : Blk w1 g (u.map byteV) T0) (hbel : Below w0.heap.size w0 w1) (hown : Own w0.heap.size w1 (aget a 1) bs)
    (h11 : aget a1 1 = aget a 1) (hN1 : a1.tmps.size = nt) (hv1 : aget a1 v = .pointer (some ⟨g, 0, none⟩)) (hd : t ≤ t2 ∧ t2 + 2 < nt ∧ v ≠ t2 ∧ 1 < lo ∧ lo ≤ N ∧ N ≤ t ∧ t ≤ nt) (hl : bs.length + u.length ≤ lim)
    (hq : ∀ a' w', St nt w0 a' w' (bs ++ u) → Fr N lo t 1 a1 a' → Q .normal a' w') :
    (Code.region r' #[⟨some t2, .move (.tmp 1), ty7, p7, e7, none⟩, ⟨some (t2 + 1), .load U (.tmp v), ty8, p8, e8, none⟩, ⟨some (t2 + 2), .call { callee := .value (.func F), args := #[.tmp t2, .tmp (t2 + 1)], argTypes := at_ }, ty9, p9, e9, none⟩,
        ⟨some 1, .assign (.tmp (t2 + 2)), ty10, p10, e10, none⟩] false).wp P Q a1 w1 := by
  obtain ⟨d5, d6, d7, g1, g2, g3, g4⟩ := hd
  refine wp_reg ?_
  refine wl_move rfl ?_
  refine wl_value (v := .agg (u.map byteV).toArray) (w' := w1) rfl ?_ ?_
  · have e1 : ∀ A : Act, aget A v = .pointer (some ⟨g, 0, none⟩) → (execOp A.eval ⟨some (t2 + 1), .load U (.tmp v), ty8, p8, e8, none⟩).run P w1 = .ok (.value (.agg (u.map byteV).toArray)) w1 := by
      intro A hA
      have e2 : A.eval (.tmp v) = .pointer (some ⟨g, 0, none⟩) := hA
      have := run_load_many (P := P) hU (w := w1) (ad := ⟨g, 0, none⟩) (l := u.map byteV) (by simpa using hu) (fun j x hx => by
        rw [Addr.add_lit, Nat.zero_add]
        exact hblk.cell_some hx)
      simp [execOp, e2, this]
    exact e1 _ (by rw [aget_put_other _ _ _ _ (by omega)]; exact hv1)
  refine wl_call (R := Appended w0.heap.size w1 (bs ++ u)) he ?_ ?_
  · simp only [List.map_toArray, List.map_cons, List.map_nil, aget_eval]
    rw [aget_put_other _ _ _ _ (by omega), aget_put_same _ _ _ (by omega), aget_put_same _ _ _ (by simp only [size_put]; omega), h11]
    exact hF u hu w0.heap.size w1 _ bs hown hbel.size hl
  rintro e w' ⟨v', rfl, hown', hbel'⟩
  refine ⟨v', rfl, ?_⟩
  refine wl_assign (aget_put_same _ _ _ (by simp only [size_put]; omega)) ?_
  refine wpList_nil (hq _ _ ⟨by simp only [size_put, hN1], ?_, hbel.trans hbel'⟩ (((((Fr.refl N lo t 1 a1).put _ _ (by omega)).put _ _ (by omega)).put _ _ (by omega)).put _ _ (by omega)))
  rw [aget_put_same _ _ _ (by simp only [size_put]; omega)]
  exact hown'

/-- '{ v := s.F; dst = AppendUuid(dst, v) }'. -/
theorem appF_uuid {ver : Int} {flex : Bool} {s v t1 t2 T k U F off r r' ty1 ty2 ty3 ty4 ty5 ty6 ty7 ty8 ty9 ty10 : Nat} {p1 p2 p3 p4 p5 p6 p7 p8 p9 p10 : String} {e1 e2 e3 e4 e5 e6 e7 e8 e9 e10 : Array Edge} {at_ : Array TypeId}
    (hT : FieldAt P T k off) (hU : ManyCells P U 16) (he : Enters P F) (hF : ∀ u : List UInt8, u.length = 16 → AppC P F (.agg (u.map byteV).toArray) u) (hD : Dims N nt lo t) (hd : t ≤ t1 ∧ t1 + 3 < nt ∧ lo ≤ v ∧ v < N ∧ t ≤ t2 ∧ t2 + 2 < nt ∧ v ≠ t2 ∧ v ≠ 1) :
    AppF RT P N nt ver flex K lo t s ((Code.region r #[⟨some t1, .move (.tmp s), ty1, p1, e1, none⟩, ⟨some (t1 + 1), .nilCheck (.tmp t1), ty2, p2, e2, none⟩, ⟨some (t1 + 2), .fieldAddr T (.tmp (t1 + 1)) k, ty3, p3, e3, none⟩,
      ⟨some (t1 + 3), .load U (.tmp (t1 + 2)), ty4, p4, e4, none⟩, ⟨some v, .alloc U, ty5, p5, e5, none⟩, ⟨none, .store U (.tmp v) (.tmp (t1 + 3)), ty6, p6, e6, none⟩] false).seq
      (.region r' #[⟨some t2, .move (.tmp 1), ty7, p7, e7, none⟩, ⟨some (t2 + 1), .load U (.tmp v), ty8, p8, e8, none⟩, ⟨some (t2 + 2), .call { callee := .value (.func F), args := #[.tmp t2, .tmp (t2 + 1)], argTypes := at_ }, ty9, p9, e9, none⟩,
        ⟨some 1, .assign (.tmp (t2 + 2)), ty10, p10, e10, none⟩] false)) off (.leaf .uuid) := by
  intro w0 b o gv hrep a w bs Q hst hh hl hq
  cases gv <;> simp only [Rep, RepLeaf] at hrep <;> try exact hrep.elim
  rename_i u
  obtain ⟨hu, hc⟩ := hrep
  obtain ⟨d1, d2, d3, d4, d5, d6, d7, d8⟩ := hd
  obtain ⟨g1, g2, g3, g4⟩ := hD
  have hN := hst.size
  have hone : ∀ x ∈ u.map byteV, x.oneCell' = true := by
    intro x hx
    obtain ⟨_, _, rfl⟩ := List.mem_map.1 hx
    rfl
  refine wp_seq (wp_reg ?_)
  refine wl_move hh.head ?_
  refine wl_nilCheck (aget_put_same _ _ _ (by (first | rw [hN] | simp only [size_put, hN]); omega)) ?_
  refine wl_fieldAddr hT (aget_put_same _ _ _ (by (first | rw [hN] | simp only [size_put, hN]); omega)) ?_
  rw [Addr.add_lit]
  refine wl_value (v := .agg (u.map byteV).toArray) (w' := w) rfl ?_ ?_
  · have e1 : ∀ A : Act, aget A (t1 + 2) = .pointer (some ⟨b, o + off, none⟩) → (execOp A.eval ⟨some (t1 + 3), .load U (.tmp (t1 + 2)), ty4, p4, e4, none⟩).run P w = .ok (.value (.agg (u.map byteV).toArray)) w := by
      intro A hA
      have e2 : A.eval (.tmp (t1 + 2)) = .pointer (some ⟨b, o + off, none⟩) := hA
      have := run_load_many (P := P) hU (w := w) (ad := ⟨b, o + off, none⟩) (l := u.map byteV) (by simpa using hu) (fun j x hx => by
        rw [Addr.add_lit]
        rw [List.getElem?_map] at hx
        cases hj : u[j]? with
        | none => simp [hj] at hx
        | some y =>
          rw [hj] at hx
          cases hx
          exact hst.cell (hc j y hj))
      simp [execOp, e2, this]
    exact e1 _ (aget_put_same _ _ _ (by (first | rw [hN] | simp only [size_put, hN]); omega))
  obtain ⟨z, hz, hza⟩ := run_alloc_many (P := P) hU w
  refine wl_value (v := .pointer (some ⟨w.heap.size, 0, none⟩)) (w' := w.alloc (.cells z U)) rfl (by simp [execOp, hza]) ?_
  obtain ⟨w1, hrun, hblk, hbel, hown⟩ : ∃ w1, (Instr.storeAt U (.pointer (some ⟨w.heap.size, 0, none⟩)) (.agg (u.map byteV).toArray)).run P (w.alloc (.cells z U)) = .ok () w1 ∧ Blk w1 w.heap.size (u.map byteV) U ∧
      Below w0.heap.size w0 w1 ∧ Own w0.heap.size w1 (aget a 1) bs := by
    refine ⟨_, run_store_many (P := P) hU (w := w.alloc (.cells z U)) (g := w.heap.size) (cur := z) (T := U) (heap_alloc_new w _) hz (l := u.map byteV) (by simpa using hu) hone, setRow_heap _ _ _ _ _ _ (heap_alloc_new w _),
      below_setRow (hst.below.alloc hst.below.size _) hst.below.size _, ?_⟩
    refine World.ownsRow.kept hst.own (row := none) ⟨rfl, rfl, rfl, ?_, ?_⟩ ?_
    · simp [World.setRow]
    · intro j hj _
      rw [setRow_other _ _ _ _ (by omega)]
      exact Below.heap_alloc w _ j hj
    · cases h : (aget a 1).ownBlock <;> simp
  refine wl_store (w' := w1) ?_ ?_
  · rw [aget_eval, aget_eval, aget_put_same _ _ _ (by (first | rw [hN] | simp only [size_put, hN]); omega), aget_put_other _ _ _ _ (by omega), aget_put_same _ _ _ (by (first | rw [hN] | simp only [size_put, hN]); omega)]
    exact hrun
  have f1 : Fr N lo t nt a (Act.put (Act.put (Act.put (Act.put (Act.put a (some t1) (.pointer (some ⟨b, o, none⟩))) (some (t1 + 1)) (.pointer (some ⟨b, o, none⟩))) (some (t1 + 2)) (.pointer (some ⟨b, o + off, none⟩))) (some (t1 + 3)) (.agg (u.map byteV).toArray)) (some v) (.pointer (some ⟨w.heap.size, 0, none⟩))) :=
    (((((Fr.refl N lo t nt a).put _ _ (by omega)).put _ _ (by omega)).put _ _ (by omega)).put _ _ (by omega)).put _ _ (by omega)
  refine wpList_nil ?_
  simp only [ap, apLeaf] at hl hq
  exact reg_uuid2 hU he hF hu hblk hbel hown (f1.same 1 (by omega) (.inl g1)) (f1.size.trans hN) (aget_put_same _ _ _ (by (first | rw [hN] | simp only [size_put, hN]); omega)) ⟨d5, d6, d7, g1, g2, g3, g4⟩ hl fun a' w' hs hf => hq a' w' hs ((f1.to1 ⟨g1, g2, g3, g4⟩).trans hf)

/-- A number of a named type: '{ v := int8(v); .. }'. -/
theorem appL_copy {ver : Int} {flex : Bool} {u v t1 r ty1 ty2 lo' t' : Nat} {p1 p2 : String} {e1 e2 : Array Edge} {c : Code} {lf : Leaf}
    (hk : KOK N lo t K) (hD : Dims N nt lo t) (hd : t ≤ t1 ∧ t1 < nt ∧ lo ≤ v ∧ v < N ∧ v < lo' ∧ lo ≤ lo' ∧ t ≤ t') (h : AppL P N nt ver flex K lo' t' v c lf) :
    AppL P N nt ver flex K lo t u ((Code.region r #[⟨some t1, .move (.tmp u), ty1, p1, e1, none⟩, ⟨some v, .assign (.tmp t1), ty2, p2, e2, none⟩] false).seq c) lf := by
  intro w0 b o x gv hrep hc a w bs Q hst hh hl hq
  obtain ⟨d1, d2, d3, d4, d5, d6, d7⟩ := hd
  refine wp_seq (reg_copy (x0 := nt) (lo := lo) hst.size hh.head ⟨hD.dT, d1, d2, d3, d4⟩ fun a' hfr0 hx => ?_)
  have hfr := hfr0.to1 hD
  exact h w0 b o x gv hrep hc a' w bs _ (hst.fr hfr0 hD) ((hh.tail.fr hk hfr).cons hx) hl fun a2 w2 hs2 hf2 => hq a2 w2 hs2 (hfr.trans (hf2.mono d6 d7))

/-- The whole of AppendTo, of a message that has flexible versions. -/
theorem calls_append_flex {f : Nat} {fn : Func} {rs sv sf t1 t2 t3 t4 T k U J1 J2 r0 r1 r2 r3 r4 ty0 ty1 ty2 ty3 ty4 ty5 ty6 ty7 ty8 ty9 ty10 : Nat} {p0 p1 p2 p3 p4 p5 p6 p7 p8 p9 p10 : String} {e0 e1 e2 e3 e4 e5 e6 e7 e8 e9 e10 : Array Edge} {c : Code} {m : Int}
    {sch : Sch} {ver : Int} {b o : Nat} {v : GV} {off0 : Nat}
    (hf : P.funcs[f]? = some fn)
    (hbody : fn.body = some ((Code.region r0 #[⟨some rs, .assign (.const (.slice none 0 0)), ty0, p0, e0, none⟩] false).seq
      ((Code.region r1 #[⟨some t1, .move (.tmp 0), ty1, p1, e1, none⟩, ⟨some (t1 + 1), .nilCheck (.tmp t1), ty2, p2, e2, none⟩, ⟨some (t1 + 2), .fieldAddr T (.tmp (t1 + 1)) k, ty3, p3, e3, none⟩,
        ⟨some (t1 + 3), .load U (.tmp (t1 + 2)), ty4, p4, e4, none⟩, ⟨some sv, .assign (.tmp (t1 + 3)), ty5, p5, e5, none⟩] false).seq
      ((Code.region r2 #[⟨some t2, .move (.tmp sv), ty6, p6, e6, none⟩] false).seq
      ((Code.region r3 #[⟨some t3, .move (.tmp sv), ty7, p7, e7, none⟩, ⟨some (t3 + 1), .binOp .geq J1 (.tmp t3) (.const (.int .i16 m)) J2, ty8, p8, e8, none⟩, ⟨some sf, .assign (.tmp (t3 + 1)), ty9, p9, e9, none⟩] false).seq
      ((Code.region r4 #[⟨some t4, .move (.tmp sf), ty10, p10, e10, none⟩] false).seq c))))))
    (hnt : fn.ntmps = nt) (hres : fn.results = #[.tmp rs]) (hT : FieldAt P T k off0) (hU : OneCell P U)
    (hd : N ≤ t1 ∧ t1 + 3 < nt ∧ N ≤ t2 ∧ t2 < nt ∧ N ≤ t3 ∧ t3 + 1 < nt ∧ N ≤ t4 ∧ t4 < nt ∧ 1 < rs ∧ rs < sv ∧ sv < sf ∧ sf < N ∧ 2 ≤ nt ∧ N ≤ nt)
    (hver : w0.cell? ⟨b, o + off0, none⟩ = some (.int .i16 ver)) (hrep : Rep RT [] w0 ver (hasV m none ver) sch b o v)
    (hc : AppRS RT P N nt ver (hasV m none ver) [(sv, .int .i16 ver), (sf, .bool (hasV m none ver))] rs 0 c sch) (hl : (ap ver (hasV m none ver) sch v).length ≤ lim) :
    Calls P f #[.pointer (some ⟨b, o, none⟩), .slice none 0 0] w0 (Appended w0.heap.size w0 (ap ver (hasV m none ver) sch v)) := by
  obtain ⟨d1, d2, d3, d4, d5, d6, d7, d8, d9, d10, d11, d12, d13, d14⟩ := hd
  refine calls_of_wp hf hbody ?_
  rw [hnt]
  have hD : Dims N nt 2 N := ⟨by omega, by omega, Nat.le_refl _, d14⟩
  have hsz : (#[Value.pointer (some ⟨b, o, none⟩), Value.slice none 0 0] ++ Array.replicate (nt - (#[Value.pointer (some ⟨b, o, none⟩), Value.slice none 0 0]).size) undef).size = nt := by simp; omega
  generalize hA : ({ tmps := #[Value.pointer (some ⟨b, o, none⟩), Value.slice none 0 0] ++ Array.replicate (nt - (#[Value.pointer (some ⟨b, o, none⟩), Value.slice none 0 0]).size) undef, defers := [] } : Act) = A
  have hAs : A.tmps.size = nt := by rw [← hA]; exact hsz
  have hA0 : aget A 0 = .pointer (some ⟨b, o, none⟩) := by rw [← hA]; simp [aget, Array.getD_eq_getD_getElem?, Array.getElem?_append]
  have hA1 : aget A 1 = .slice none 0 0 := by rw [← hA]; simp [aget, Array.getD_eq_getD_getElem?, Array.getElem?_append]
  have hAd : A.defers = [] := by rw [← hA]
  clear hA hsz
  have hst : St nt w0 A w0 [] := ⟨hAs, by rw [hA1]; exact Own.nil _ _, Below.refl _ _⟩
  refine wp_seq (wp_reg ?_)
  refine wl_assign_c ?_
  refine wpList_nil ?_
  simp only [Exit.then]
  have f1 : Fr N 2 N nt A (A.put (some rs) (.slice none 0 0)) := (Fr.refl ..).put _ _ (by omega)
  have st1 := hst.fr f1 hD
  refine wp_seq (reg_load (N := N) (t := N) (x0 := nt) (lo := 2) hT hU st1.size (by rw [f1.same 0 (by omega) (.inl (by omega))]; exact hA0) (by rw [Addr.add_lit]; exact hver) ⟨Nat.le_refl _, d1, d2, by omega, by omega⟩ fun a2 f2 x2 => ?_)
  have st2 := st1.fr f2 hD
  refine wp_seq (reg_flag (N := N) (t := N) (x0 := nt) (lo := N) st2.size x2 ⟨Nat.le_refl _, d3, d4, Nat.le_refl _⟩ fun a3 f3 _ => ?_)
  have st3 := st2.fr (f3.mono (by omega) (Nat.le_refl _)) hD
  have x3 : aget a3 sv = .int .i16 ver := (f3.same sv (by omega) (.inl (by omega))).trans x2
  refine wp_seq (reg_cmpv (N := N) (t := N) (x0 := nt) (lo := sf) (b := hasV m none ver) st3.size x3 ⟨Nat.le_refl _, d5, d6, Nat.le_refl _, d12⟩ (fun w => by rw [run_cmp_i16]; simp [hasV]) fun a4 f4 x4 => ?_)
  have st4 := st3.fr (f4.mono (by omega) (Nat.le_refl _)) hD
  have y4 : aget a4 sv = .int .i16 ver := (f4.same sv (by omega) (.inl (by omega))).trans x3
  refine wp_seq (reg_flag (N := N) (t := N) (x0 := nt) (lo := N) st4.size x4 ⟨Nat.le_refl _, d7, d8, Nat.le_refl _⟩ fun a5 f5 _ => ?_)
  have st5 := st4.fr (f5.mono (by omega) (Nat.le_refl _)) hD
  have x5 : aget a5 sf = .bool (hasV m none ver) := (f5.same sf (by omega) (.inl (by omega))).trans x4
  have y5 : aget a5 sv = .int .i16 ver := (f5.same sv (by omega) (.inl (by omega))).trans y4
  have z5 : aget a5 0 = .pointer (some ⟨b, o, none⟩) := (f5.same 0 (by omega) (.inl (by omega))).trans ((f4.same 0 (by omega) (.inl (by omega))).trans ((f3.same 0 (by omega) (.inl (by omega))).trans ((f2.same 0 (by omega) (.inl (by omega))).trans ((f1.same 0 (by omega) (.inl (by omega))).trans hA0))))
  refine hc w0 b o v hrep a5 w0 [] _ st5 ?_ (by simpa using hl) fun a6 w6 st6 r6 df6 => ?_
  · intro p hp
    simp only [List.mem_cons, List.not_mem_nil, or_false] at hp
    rcases hp with rfl | rfl | rfl
    · exact z5
    · exact y5
    · exact x5
  · refine bodyPost_ret (v := aget a6 1) ?_ (df6.trans (f5.defers.trans (f4.defers.trans (f3.defers.trans (f2.defers.trans (f1.defers.trans hAd)))))) ⟨_, rfl, ?_, st6.below⟩
    · rw [← r6]
      exact results_tmp hres _ _ _
    · simpa using st6.own
end
end Go.Proofs.YtfchajjllhndlabGreatDoor

/- The code of readFrom, whole: the reader that it makes, the version, the fields, the answer. -/
namespace Go.Proofs.YtfchajjllhndlabGreatDoor
open Go Go.RowKit
set_option linter.unusedVariables false

section
variable {RT : RTags} {P : Program} {N nt gE : Nat} {E : Value} {K : Slots} {lo t : Nat} {ver : Int} {flex : Bool}
/-- The rest of a message, to the return. -/
def RdR (RT : RTags) (P : Program) (N nt gE : Nat) (E : Value) (ver : Int) (flex : Bool) (K : Slots) (lo t s bp rs : Nat) (c : Code) (n : Nat) (f : Sch) : Prop :=
  ∀ (O : List Nat) (rb b o T : Nat) (a : Act) (w : World) (cs : List Value) (st : Option (List UInt8)) (Q : Exit → Act → World → Prop),
    a.tmps.size = nt → Holds ((s, .pointer (some ⟨b, o, none⟩)) :: (bp, .pointer (some ⟨rb, 0, none⟩)) :: K) a → RSt gE E O w rb b cs T st → Fresh cs o f →
    (∀ a' w', a'.tmps.size = nt → a'.defers = a.defers → aget a' rs = (if (st.bind (rd ver flex f)).isSome then .nilIface else E) → Keeps [rb, b] w w' →
      (∀ v r, st.bind (rd ver flex f) = some (v, r) → Rep RT O w' ver flex f b o v ∧ ∃ cs', Blk w' b cs' T ∧ SameOut cs cs' (o + n) (o + top f)) → Q .ret a' w') → c.wp P Q a w
theorem rdR_end {s bp rs n t1 F r ty1 ty2 : Nat} {p1 p2 : String} {e1 e2 : Array Edge} {at_ : Array TypeId} {c : Code} {f : Sch} (hk : KOK N lo t ((s, .int .i64 0) :: (bp, .int .i64 0) :: K)) (hD : Dims N nt lo t) (he : Enters P F) (hC : CompleteC P F gE E) (hd : t1 < nt ∧ rs < nt)
    (h : RdS RT P N nt gE E ver flex K lo t s bp rs c n f) :
    RdR RT P N nt gE E ver flex K lo t s bp rs (c.seq ((Code.region r #[⟨some t1, .call { callee := .value (.func F), args := #[.tmp bp], argTypes := at_ }, ty1, p1, e1, none⟩, ⟨some rs, .assign (.tmp t1), ty2, p2, e2, none⟩] false).seq .ret)) n f := by
  intro O rb b o T a w cs st Q hN hh hst hF hq
  refine wp_seq (h O rb b o T a w cs st _ hN hh hst hF (fun a1 w1 cs1 k1 k2 k3 k4 k5 => ?_) (fun a1 w1 k1 k2 k3 k4 k5 => hq a1 w1 k2 k3 (by rw [k1]; exact k4) k5 (fun v r h => by rw [k1] at h; cases h)))
  refine reg_complete he hC (k2.size.trans hN) (hh.frR (kokR hk) hD k2).tail.head k1.rdr k1.glob hd fun a2 j1 j2 j3 => hq a2 w1 j1 (j2.trans k2.defers) ?_ k3 fun v r hv => ⟨k5 v r hv, cs1, k1.blk, k4⟩
  rw [Option.isSome_map] at j3
  exact j3
theorem rdR_cons {s bp rs off n : Nat} {vlo : Int} {vhi : Option Int} {c1 c2 : Code} {f rest : Sch} (hRT : RTKeep RT) (hk : KOK N lo t ((s, .int .i64 0) :: (bp, .int .i64 0) :: K)) (hD : Dims N nt lo t) (ho : ord n (.cons off vlo vhi f rest) = true)
    (h1 : RdFV RT P N nt gE E ver flex K lo t s bp rs c1 off vlo vhi f) (h2 : RdR RT P N nt gE E ver flex K lo t s bp rs c2 (off + top f) rest) : RdR RT P N nt gE E ver flex K lo t s bp rs (c1.seq c2) n (.cons off vlo vhi f rest) := by
  simp only [ord, Bool.and_eq_true, decide_eq_true_eq] at ho
  intro O rb b o T a w cs st Q hN hh hst hF hq
  rw [rd_cons] at hq
  refine wp_seq (h1 O rb b o T a w cs st _ hN hh hst hF.1 ?_ ?_)
  · intro a1 w1 cs1 hst1 hf1 hk1 hs1 hv1
    refine h2 O rb b o T a1 w1 cs1 _ Q (hf1.size.trans hN) (hh.frR (kokR hk) hD hf1) hst1 (hF.2.behind hs1 ho.2 (by omega)) ?_
    intro a2 w2 k1 k2 k3 k4 k5
    refine hq a2 w2 k1 (k2.trans hf1.defers) ?_ (hk1.trans k4) ?_
    · rw [k3, bind2]
      congr 1
      cases hx : st.bind (rdV ver flex vlo vhi f) with
      | none => rfl
      | some q =>
        change ((rd ver flex rest q.2).isSome = true) = (((rd ver flex rest q.2).bind fun r => some (GV.cons q.1 r.1, r.2)).isSome = true)
        cases hy : rd ver flex rest q.2 <;> rfl
    · intro v r hvr
      rw [bind2] at hvr
      cases hx : st.bind (rdV ver flex vlo vhi f) with
      | none => rw [hx] at hvr; cases hvr
      | some q =>
        rw [hx] at hvr
        change ((rd ver flex rest q.2).bind fun r => some (GV.cons q.1 r.1, r.2)) = _ at hvr
        cases hy : rd ver flex rest q.2 with
        | none => rw [hy] at hvr; cases hvr
        | some r2 =>
          rw [hy] at hvr
          simp only [Option.bind_some, Option.some.injEq, Prod.mk.injEq] at hvr
          obtain ⟨rfl, rfl⟩ := hvr
          obtain ⟨j1, cs2, j2, j3⟩ := k5 r2.1 r2.2 (by rw [hx]; exact hy)
          refine ⟨⟨fun hv => ?_, j1⟩, cs2, j2, hs1.trans j3 (by omega) (by simp only [top]; omega)⟩
          exact rep_moved hRT O w1 w2 b o q.1 (hv1 q.1 q.2 hx hv) (hst.keepO k4) fun k hk => hst1.blk.same j2 j3 k (by omega)
  · intro a1 w1 hn hs hd hE hk1
    have e : (st.bind ((rdV ver flex vlo vhi f).bind fun v => (rd ver flex rest).bind fun vs => .pure (GV.cons v vs))) = none := by rw [bind2, hn]; rfl
    exact hq a1 w1 hs hd (by rw [e]; exact hE) hk1 (fun v r h => by rw [e] at h; cases h)
/-- What readFrom leaves. -/
def ReadPost (RT : RTags) (E : Value) (ver : Int) (flex : Bool) (sch : Sch) (b o off0 : Nat) (bs : List UInt8) (w : World) (en : Ending) (w' : World) : Prop :=
  en = .returned (if (rd ver flex sch bs).isSome then .nilIface else E) ∧ Keeps [b] w w' ∧ ∀ v r, rd ver flex sch bs = some (v, r) → Rep RT [] w' ver flex sch b o v ∧ w'.cell? ⟨b, o + off0, none⟩ = some (.int .i16 ver)
/-- What is asked of the message's own Default. -/
def DefT (P : Program) (F b o T off0 : Nat) (sch : Sch) (w : World) : Prop := Calls P F #[.pointer (some ⟨b, o, none⟩)] w fun en w' => ∃ cs', en = .returned (.tuple #[]) ∧ Blk w' b cs' T ∧ Keeps [b] w w' ∧ Fresh cs' o sch ∧ w'.cell? ⟨b, o + off0, none⟩ = w.cell? ⟨b, o + off0, none⟩
/-- The first four steps. -/
theorem read_head {f : Nat} {fn : Func} {rs bp sv t1 t2 t3 FD U Tm Uv k r0 r1 r2 r3 y1 y2 y3 y4 y5 y6 y7 y8 y9 y10 y11 y12 : Nat} {q1 q2 q3 q4 q5 q6 q7 q8 q9 q10 q11 q12 : String} {g1 g2 g3 g4 g5 g6 g7 g8 g9 g10 g11 g12 : Array Edge} {at_ : Array TypeId} {c : Code}
    {sch : Sch} {b o T off0 : Nat} {w : World} {src : Value} {bs : List UInt8} {R : Ending → World → Prop}
    (hf : P.funcs[f]? = some fn)
    (hbody : fn.body = some ((Code.region r0 #[⟨some rs, .assign (.const .nilIface), y1, q1, g1, none⟩] false).seq
      ((Code.region r1 #[⟨some t1, .move (.tmp 0), y2, q2, g2, none⟩, ⟨some (t1 + 1), .call { callee := .value (.func FD), args := #[.tmp t1], argTypes := at_ }, y3, q3, g3, none⟩] false).seq
      ((Code.region r2 #[⟨some t2, .move (.tmp 1), y4, q4, g4, none⟩, ⟨some (t2 + 1), .build U #[(0, .tmp t2)], y5, q5, g5, none⟩, ⟨some bp, .alloc U, y6, q6, g6, none⟩, ⟨none, .store U (.tmp bp) (.tmp (t2 + 1)), y7, q7, g7, none⟩] false).seq
      ((Code.region r3 #[⟨some t3, .move (.tmp 0), y8, q8, g8, none⟩, ⟨some (t3 + 1), .nilCheck (.tmp t3), y9, q9, g9, none⟩, ⟨some (t3 + 2), .fieldAddr Tm (.tmp (t3 + 1)) k, y10, q10, g10, none⟩,
        ⟨some (t3 + 3), .load Uv (.tmp (t3 + 2)), y11, q11, g11, none⟩, ⟨some sv, .assign (.tmp (t3 + 3)), y12, q12, g12, none⟩] false).seq c)))))
    (hnt : fn.ntmps = nt) (he : Enters P FD) (hT : FieldAt P Tm k off0) (hUv : OneCell P Uv) (hU : ManyCells P U 2) (hUr : U = 277) (hB : ∀ ad n m, P.built U [(0, .slice ad n m)] = some #[.slice ad n m, .bool false])
    (hd : N ≤ t1 ∧ t1 + 1 < nt ∧ N ≤ t2 ∧ t2 + 1 < nt ∧ N ≤ t3 ∧ t3 + 3 < nt ∧ 2 < rs ∧ rs < bp ∧ bp < sv ∧ sv < N ∧ 3 ≤ nt ∧ N ≤ nt)
    (hver : w.cell? ⟨b, o + off0, none⟩ = some (.int .i16 ver)) (hDef : DefT P FD b o T off0 sch w) (hs : RB [b] w src bs) (hbs : bs.length ≤ lim) (hE : w.cell? ⟨gE, 0, none⟩ = some E) (hgE : gE ≠ b) (hb : b < w.heap.size)
    (h : ∀ a w2 rb cs, w.heap.size ≤ rb → a.tmps.size = nt → a.defers = [] → Holds [(0, .pointer (some ⟨b, o, none⟩)), (bp, .pointer (some ⟨rb, 0, none⟩)), (sv, .int .i16 ver), (rs, .nilIface), (2, .bool false)] a → RSt gE E [rb, b] w2 rb b cs T (some bs) → Fresh cs o sch → w2.cell? ⟨b, o + off0, none⟩ = some (.int .i16 ver) → Keeps [b] w w2 → c.wp P (bodyPost P fn R) a w2) :
    Calls P f #[.pointer (some ⟨b, o, none⟩), src, .bool false] w R := by
  obtain ⟨d1, d2, d3, d4, d5, d6, d7, d8, d9, d10, d11, d12⟩ := hd
  obtain ⟨sad, scap, rfl, -⟩ : ∃ a cap, src = .slice a bs.length cap ∧ True := by obtain ⟨a, cap, h, -⟩ := hs; exact ⟨a, cap, h, trivial⟩
  refine calls_of_wp hf hbody ?_
  rw [hnt]
  have hsz : (#[Value.pointer (some ⟨b, o, none⟩), .slice sad bs.length scap, .bool false] ++ Array.replicate (nt - (#[Value.pointer (some ⟨b, o, none⟩), .slice sad bs.length scap, .bool false]).size) undef).size = nt := by simp; omega
  generalize hA : ({ tmps := #[Value.pointer (some ⟨b, o, none⟩), .slice sad bs.length scap, .bool false] ++ Array.replicate (nt - (#[Value.pointer (some ⟨b, o, none⟩), .slice sad bs.length scap, .bool false]).size) undef, defers := [] } : Act) = A
  have hAs : A.tmps.size = nt := by rw [← hA]; exact hsz
  have hA0 : aget A 0 = .pointer (some ⟨b, o, none⟩) := by rw [← hA]; simp [aget, Array.getD_eq_getD_getElem?, Array.getElem?_append]
  have hA1 : aget A 1 = .slice sad bs.length scap := by rw [← hA]; simp [aget, Array.getD_eq_getD_getElem?, Array.getElem?_append]
  have hA2 : aget A 2 = .bool false := by rw [← hA]; simp [aget, Array.getD_eq_getD_getElem?, Array.getElem?_append]
  have hAd : A.defers = [] := by rw [← hA]
  clear hA hsz
  refine wp_seq (wp_reg ?_)
  refine wl_assign_c ?_
  refine wpList_nil ?_
  simp only [Exit.then]
  have f1 : Fr N rs N nt A (A.put (some rs) .nilIface) := (Fr.refl ..).put _ _ (by omega)
  have n1 : aget (A.put (some rs) .nilIface) rs = .nilIface := aget_put_same _ _ _ (by omega)
  generalize A.put (some rs) .nilIface = A1 at *
  have s1 := f1.size.trans hAs
  have z1 : aget A1 0 = .pointer (some ⟨b, o, none⟩) := (f1.same 0 (by omega) (.inl (by omega))).trans hA0
  refine wp_seq (wp_reg ?_)
  refine wl_move z1 ?_
  refine wl_call (R := fun en w' => ∃ cs', en = .returned (.tuple #[]) ∧ Blk w' b cs' T ∧ Keeps [b] w w' ∧ Fresh cs' o sch ∧ w'.cell? ⟨b, o + off0, none⟩ = w.cell? ⟨b, o + off0, none⟩) he ?_ ?_
  · simp only [List.map_toArray, List.map_cons, List.map_nil, aget_eval]
    rw [aget_put_same _ _ _ (by omega)]
    exact hDef
  rintro en w1 ⟨cs, rfl, hb1, hk1, hF1, hv1⟩
  refine ⟨_, rfl, wpList_nil ?_⟩
  simp only [Exit.then]
  have f2 : Fr N N N nt A1 ((A1.put (some t1) (.pointer (some ⟨b, o, none⟩))).put (some (t1 + 1)) (.tuple #[])) := ((Fr.refl ..).put _ _ (by omega)).put _ _ (by omega)
  generalize ((A1.put (some t1) (.pointer (some ⟨b, o, none⟩))).put (some (t1 + 1)) (.tuple #[])) = A2 at *
  have s2 := f2.size.trans s1
  have z2 : aget A2 0 = .pointer (some ⟨b, o, none⟩) := (f2.same 0 (by omega) (.inl (by omega))).trans z1
  have v2 : aget A2 1 = .slice sad bs.length scap := (f2.same 1 (by omega) (.inl (by omega))).trans ((f1.same 1 (by omega) (.inl (by omega))).trans hA1)
  refine wp_seq (wp_reg ?_)
  refine wl_move v2 ?_
  refine wl_value (v := .agg #[.slice sad bs.length scap, .bool false]) (w' := w1) rfl ?_ ?_
  · have e1 : (A2.put (some t2) (.slice sad bs.length scap)).eval (.tmp t2) = .slice sad bs.length scap := aget_put_same _ _ _ (by omega)
    have e2 := run_build (P := P) w1 U #[(0, .slice sad bs.length scap)] _ (hB sad bs.length scap)
    simp [execOp, e1, e2]
  obtain ⟨z, hz, hza⟩ := run_alloc_many (P := P) hU w1
  refine wl_value (v := .pointer (some ⟨w1.heap.size, 0, none⟩)) (w' := w1.alloc (.cells z U)) rfl (by simp [execOp, hza]) ?_
  have hg : (w1.alloc (.cells z U)).heap[w1.heap.size]? = some (.cells z U (0, 0)) := heap_alloc_new w1 _
  refine wl_store (w' := (w1.alloc (.cells z U)).setRow w1.heap.size #[.slice sad bs.length scap, .bool false]) ?_ ?_
  · rw [aget_eval, aget_eval, aget_put_same _ _ _ (by simp only [size_put]; omega), aget_put_other _ _ _ (t2 + 1) (by omega), aget_put_same _ _ _ (by simp only [size_put]; omega)]
    exact run_store_many (P := P) hU hg hz (l := [.slice sad bs.length scap, .bool false]) rfl (by simp [Value.oneCell'])
  refine wpList_nil ?_
  simp only [Exit.then]
  have hblk : Blk ((w1.alloc (.cells z U)).setRow w1.heap.size #[.slice sad bs.length scap, .bool false]) w1.heap.size [.slice sad bs.length scap, .bool false] U := setRow_heap _ _ _ _ _ _ hg
  have hk0 : Keeps [] w1 ((w1.alloc (.cells z U)).setRow w1.heap.size #[.slice sad bs.length scap, .bool false]) := by
    exact Keeps.of_below (below_setRow (Below.alloc (Below.refl w1.heap.size w1) (Nat.le_refl _) (.cells z U)) (Nat.le_refl _) _) (Nat.le_refl _)
  generalize ((w1.alloc (.cells z U)).setRow w1.heap.size #[.slice sad bs.length scap, .bool false]) = w2 at *
  have f3 : Fr N bp N nt A2 (((A2.put (some t2) (.slice sad bs.length scap)).put (some (t2 + 1)) (.agg #[.slice sad bs.length scap, .bool false])).put (some bp) (.pointer (some ⟨w1.heap.size, 0, none⟩))) := (((Fr.refl ..).put _ _ (by omega)).put _ _ (by omega)).put _ _ (by omega)
  have p3 : aget (((A2.put (some t2) (.slice sad bs.length scap)).put (some (t2 + 1)) (.agg #[.slice sad bs.length scap, .bool false])).put (some bp) (.pointer (some ⟨w1.heap.size, 0, none⟩))) bp = .pointer (some ⟨w1.heap.size, 0, none⟩) := aget_put_same _ _ _ (by simp only [size_put]; omega)
  generalize (((A2.put (some t2) (.slice sad bs.length scap)).put (some (t2 + 1)) (.agg #[.slice sad bs.length scap, .bool false])).put (some bp) (.pointer (some ⟨w1.heap.size, 0, none⟩))) = A3 at *
  have s3 := f3.size.trans s2
  have z3 : aget A3 0 = .pointer (some ⟨b, o, none⟩) := (f3.same 0 (by omega) (.inl (by omega))).trans z2
  have n3 : aget A3 rs = .nilIface := (f3.same rs (by omega) (.inl (by omega))).trans ((f2.same rs (by omega) (.inl (by omega))).trans n1)
  have hbl : b < w1.heap.size := hb1.lt
  have hk2 : Keeps [b] w1 w2 := hk0.mono (by simp)
  have hb2 : Blk w2 b cs T := hb1.keeps hk0 (by simp)
  have hv2 : w2.cell? ⟨b, o + off0, none⟩ = some (.int .i16 ver) := by rw [hb2.cell, ← hb1.cell, hv1, hver]
  refine wp_seq (reg_load (N := N) (t := N) (x0 := nt) (lo := sv) hT hUv s3 z3 (by rw [Addr.add_lit]; exact hv2) ⟨Nat.le_refl _, d5, d6, Nat.le_refl _, d10⟩ fun a4 f4 x4 => ?_)
  refine h a4 w2 w1.heap.size cs hk1.size (f4.size.trans s3) (f4.defers.trans (f3.defers.trans (f2.defers.trans (f1.defers.trans hAd)))) ?_ ?_ hF1 hv2 (hk1.trans hk2)
  · intro q hq
    simp only [List.mem_cons, List.not_mem_nil, or_false] at hq
    rcases hq with rfl | rfl | rfl | rfl | rfl
    · exact (f4.same 0 (by omega) (.inl (by omega))).trans z3
    · exact (f4.same bp (by omega) (.inl (by omega))).trans p3
    · exact x4
    · exact (f4.same rs (by omega) (.inl (by omega))).trans n3
    · exact (f4.same 2 (by omega) (.inl (by omega))).trans ((f3.same 2 (by omega) (.inl (by omega))).trans ((f2.same 2 (by omega) (.inl (by omega))).trans ((f1.same 2 (by omega) (.inl (by omega))).trans hA2)))
  · have hglt : gE < w.heap.size := World.block_lt_of_cell? w _ hE
    have hk12 := hk1.trans hk2
    refine ⟨⟨_, hUr ▸ hblk, ?_, hbs⟩, hb2, by simp, by simp, by omega, ?_, ?_, ?_⟩
    · exact ((hs.keeps hk1).openNew (Nat.le_refl _)).keeps (hk2.mono (by simp))
    · intro k hk
      simp only [List.mem_cons, List.not_mem_nil, or_false] at hk
      rcases hk with rfl | rfl
      · exact hblk.lt
      · exact hb2.lt
    · exact (World.cell?_of_block (hk12.block gE hglt (by simpa using hgE))).trans hE
    · have := hk1.size
      simp only [List.mem_cons, List.not_mem_nil, or_false, not_or]
      exact ⟨by omega, hgE⟩
theorem read_tail {fn : Func} {rs n b o T off0 rb : Nat} {sch : Sch} {bs : List UInt8} {a : Act} {w w2 : World} {cs : List Value} {c : Code} {s bp : Nat} (hRTm : RTMono RT) (hres : fn.results = #[.tmp rs]) (h : RdR RT P N nt gE E ver flex K lo t s bp rs c n sch)
    (hN : a.tmps.size = nt) (hd : a.defers = []) (hh : Holds ((s, .pointer (some ⟨b, o, none⟩)) :: (bp, .pointer (some ⟨rb, 0, none⟩)) :: K) a) (hst : RSt gE E [rb, b] w2 rb b cs T (some bs)) (hF : Fresh cs o sch) (hv : w2.cell? ⟨b, o + off0, none⟩ = some (.int .i16 ver)) (hk : Keeps [b] w w2) (hrb : w.heap.size ≤ rb) (hn : off0 < n) :
    c.wp P (bodyPost P fn (ReadPost RT E ver flex sch b o off0 bs w)) a w2 := by
  refine h _ rb b o T a w2 cs (some bs) _ hN hh hst hF fun a' w' k1 k2 k3 k4 k5 => ?_
  refine bodyPost_ret (v := aget a' rs) (results_tmp hres _ _ _) (k2.trans hd) ⟨by rw [k3]; rfl, ?_, fun v r hvr => ?_⟩
  · exact ((hk.mono (O' := [rb, b]) (by simp)).trans k4).close hrb
  · obtain ⟨j1, cs', j2, j3⟩ := k5 v r hvr
    refine ⟨j1.mono hRTm (by simp), ?_⟩
    rw [j2.cell, j3.out _ (.inl (by omega)), ← hst.blk.cell, hv]
theorem calls_read_flex {f : Nat} {fn : Func} {rs bp sv sf s t1 t2 t3 t4 t5 t6 t7 FD U Tm Uv k r0 r1 r2 r3 r4 r5 r6 r7 J1 J2 y1 y2 y3 y4 y5 y6 y7 y8 y9 y10 y11 y12 y13 y14 y15 y16 y17 y18 y19 : Nat} {q1 q2 q3 q4 q5 q6 q7 q8 q9 q10 q11 q12 q13 q14 q15 q16 q17 q18 q19 : String} {g1 g2 g3 g4 g5 g6 g7 g8 g9 g10 g11 g12 g13 g14 g15 g16 g17 g18 g19 : Array Edge} {at_ : Array TypeId} {c : Code} {m : Int}
    {sch : Sch} {b o T off0 n : Nat} {w : World} {src : Value} {bs : List UInt8}
    (hf : P.funcs[f]? = some fn)
    (hbody : fn.body = some ((Code.region r0 #[⟨some rs, .assign (.const .nilIface), y1, q1, g1, none⟩] false).seq
      ((Code.region r1 #[⟨some t1, .move (.tmp 0), y2, q2, g2, none⟩, ⟨some (t1 + 1), .call { callee := .value (.func FD), args := #[.tmp t1], argTypes := at_ }, y3, q3, g3, none⟩] false).seq
      ((Code.region r2 #[⟨some t2, .move (.tmp 1), y4, q4, g4, none⟩, ⟨some (t2 + 1), .build U #[(0, .tmp t2)], y5, q5, g5, none⟩, ⟨some bp, .alloc U, y6, q6, g6, none⟩, ⟨none, .store U (.tmp bp) (.tmp (t2 + 1)), y7, q7, g7, none⟩] false).seq
      ((Code.region r3 #[⟨some t3, .move (.tmp 0), y8, q8, g8, none⟩, ⟨some (t3 + 1), .nilCheck (.tmp t3), y9, q9, g9, none⟩, ⟨some (t3 + 2), .fieldAddr Tm (.tmp (t3 + 1)) k, y10, q10, g10, none⟩,
        ⟨some (t3 + 3), .load Uv (.tmp (t3 + 2)), y11, q11, g11, none⟩, ⟨some sv, .assign (.tmp (t3 + 3)), y12, q12, g12, none⟩] false).seq
      ((Code.region r4 #[⟨some t4, .move (.tmp sv), y13, q13, g13, none⟩] false).seq
      ((Code.region r5 #[⟨some t5, .move (.tmp sv), y14, q14, g14, none⟩, ⟨some (t5 + 1), .binOp .geq J1 (.tmp t5) (.const (.int .i16 m)) J2, y15, q15, g15, none⟩, ⟨some sf, .assign (.tmp (t5 + 1)), y16, q16, g16, none⟩] false).seq
      ((Code.region r6 #[⟨some t6, .move (.tmp sf), y17, q17, g17, none⟩] false).seq
      ((Code.region r7 #[⟨some t7, .move (.tmp 0), y18, q18, g18, none⟩, ⟨some s, .assign (.tmp t7), y19, q19, g19, none⟩] false).seq c)))))))))
    (hnt : fn.ntmps = nt) (hres : fn.results = #[.tmp rs]) (he : Enters P FD) (hT : FieldAt P Tm k off0) (hUv : OneCell P Uv) (hU : ManyCells P U 2) (hUr : U = 277) (hB : ∀ ad n m, P.built U [(0, .slice ad n m)] = some #[.slice ad n m, .bool false])
    (hd : N ≤ t1 ∧ t1 + 1 < nt ∧ N ≤ t2 ∧ t2 + 1 < nt ∧ N ≤ t3 ∧ t3 + 3 < nt ∧ 2 < rs ∧ rs < bp ∧ bp < sv ∧ sv < N ∧ 3 ≤ nt ∧ N ≤ nt) (hd2 : N ≤ t4 ∧ t4 < nt ∧ N ≤ t5 ∧ t5 + 1 < nt ∧ N ≤ t6 ∧ t6 < nt ∧ N ≤ t7 ∧ t7 < nt ∧ sv < sf ∧ sf < s ∧ s < N)
    (hRTm : RTMono RT) (hn : off0 < n) (hc : RdR RT P N nt gE E ver (hasV m none ver) [(sv, .int .i16 ver), (sf, .bool (hasV m none ver)), (2, .bool false)] (s + 1) N s bp rs c n sch)
    (hver : w.cell? ⟨b, o + off0, none⟩ = some (.int .i16 ver)) (hDef : DefT P FD b o T off0 sch w) (hs : RB [b] w src bs) (hbs : bs.length ≤ lim) (hE : w.cell? ⟨gE, 0, none⟩ = some E) (hgE : gE ≠ b) (hb : b < w.heap.size) :
    Calls P f #[.pointer (some ⟨b, o, none⟩), src, .bool false] w (ReadPost RT E ver (hasV m none ver) sch b o off0 bs w) := by
  refine read_head hf hbody hnt he hT hUv hU hUr hB hd hver hDef hs hbs hE hgE hb fun a w2 rb cs hrb hN hdf hh hst hF hv hk => ?_
  obtain ⟨d1, d2, d3, d4, d5, d6, d7, d8, d9, d10, d11, d12⟩ := hd
  obtain ⟨c1, c2, c3, c4, c5, c6, c7, c8, c9, c10, c11⟩ := hd2
  have x0 : aget a 0 = .pointer (some ⟨b, o, none⟩) := hh (0, .pointer (some ⟨b, o, none⟩)) (by simp)
  have x1 : aget a bp = .pointer (some ⟨rb, 0, none⟩) := hh (bp, .pointer (some ⟨rb, 0, none⟩)) (by simp)
  have x2 : aget a sv = .int .i16 ver := hh (sv, .int .i16 ver) (by simp)
  have x3 : aget a 2 = .bool false := hh (2, .bool false) (by simp)
  refine wp_seq (reg_flag (N := N) (t := N) (x0 := nt) (lo := N) hN x2 ⟨Nat.le_refl _, c1, c2, Nat.le_refl _⟩ fun a1 f1 _ => ?_)
  have s1 := f1.size.trans hN
  refine wp_seq (reg_cmpv (N := N) (t := N) (x0 := nt) (lo := sf) (b := hasV m none ver) s1 ((f1.same sv (by omega) (.inl (by omega))).trans x2) ⟨Nat.le_refl _, c3, c4, Nat.le_refl _, by omega⟩ (fun w => by rw [run_cmp_i16]; simp [hasV]) fun a2 f2 y2 => ?_)
  have s2 := f2.size.trans s1
  refine wp_seq (reg_flag (N := N) (t := N) (x0 := nt) (lo := N) s2 y2 ⟨Nat.le_refl _, c5, c6, Nat.le_refl _⟩ fun a3 f3 _ => ?_)
  have s3 := f3.size.trans s2
  have f03 : Fr N sf N nt a a3 := ((f1.mono (by omega) (Nat.le_refl _)).trans f2).trans (f3.mono (by omega) (Nat.le_refl _))
  refine wp_seq (reg_copy (N := N) (t := N) (x0 := nt) (lo := s) s3 ((f03.same 0 (by omega) (.inl (by omega))).trans x0) ⟨Nat.le_refl _, c7, c8, Nat.le_refl _, c11⟩ fun a4 f4 x4 => ?_)
  refine read_tail hRTm hres hc (f4.size.trans s3) (f4.defers.trans (f03.defers.trans hdf)) ?_ hst hF hv hk hrb hn
  intro q hq
  simp only [List.mem_cons, List.not_mem_nil, or_false] at hq
  rcases hq with rfl | rfl | rfl | rfl | rfl
  · exact x4
  · exact (f4.same bp (by omega) (.inl (by omega))).trans ((f03.same bp (by omega) (.inl (by omega))).trans x1)
  · exact (f4.same sv (by omega) (.inl (by omega))).trans ((f03.same sv (by omega) (.inl (by omega))).trans x2)
  · exact (f4.same sf (by omega) (.inl (by omega))).trans ((f3.same sf (by omega) (.inl (by omega))).trans y2)
  · exact (f4.same 2 (by omega) (.inl (by omega))).trans ((f03.same 2 (by omega) (.inl (by omega))).trans x3)
theorem calls_read_plain {f : Nat} {fn : Func} {rs bp sv s t1 t2 t3 t4 t7 FD U Tm Uv k r0 r1 r2 r3 r4 r7 y1 y2 y3 y4 y5 y6 y7 y8 y9 y10 y11 y12 y13 y14 y15 y16 y17 y18 y19 : Nat} {q1 q2 q3 q4 q5 q6 q7 q8 q9 q10 q11 q12 q13 q14 q15 q16 q17 q18 q19 : String} {g1 g2 g3 g4 g5 g6 g7 g8 g9 g10 g11 g12 g13 g14 g15 g16 g17 g18 g19 : Array Edge} {at_ : Array TypeId} {c : Code}
    {sch : Sch} {b o T off0 n : Nat} {w : World} {src : Value} {bs : List UInt8}
    (hf : P.funcs[f]? = some fn)
    (hbody : fn.body = some ((Code.region r0 #[⟨some rs, .assign (.const .nilIface), y1, q1, g1, none⟩] false).seq
      ((Code.region r1 #[⟨some t1, .move (.tmp 0), y2, q2, g2, none⟩, ⟨some (t1 + 1), .call { callee := .value (.func FD), args := #[.tmp t1], argTypes := at_ }, y3, q3, g3, none⟩] false).seq
      ((Code.region r2 #[⟨some t2, .move (.tmp 1), y4, q4, g4, none⟩, ⟨some (t2 + 1), .build U #[(0, .tmp t2)], y5, q5, g5, none⟩, ⟨some bp, .alloc U, y6, q6, g6, none⟩, ⟨none, .store U (.tmp bp) (.tmp (t2 + 1)), y7, q7, g7, none⟩] false).seq
      ((Code.region r3 #[⟨some t3, .move (.tmp 0), y8, q8, g8, none⟩, ⟨some (t3 + 1), .nilCheck (.tmp t3), y9, q9, g9, none⟩, ⟨some (t3 + 2), .fieldAddr Tm (.tmp (t3 + 1)) k, y10, q10, g10, none⟩,
        ⟨some (t3 + 3), .load Uv (.tmp (t3 + 2)), y11, q11, g11, none⟩, ⟨some sv, .assign (.tmp (t3 + 3)), y12, q12, g12, none⟩] false).seq
      ((Code.region r4 #[⟨some t4, .move (.tmp sv), y13, q13, g13, none⟩] false).seq
      ((Code.region r7 #[⟨some t7, .move (.tmp 0), y18, q18, g18, none⟩, ⟨some s, .assign (.tmp t7), y19, q19, g19, none⟩] false).seq c)))))))
    (hnt : fn.ntmps = nt) (hres : fn.results = #[.tmp rs]) (he : Enters P FD) (hT : FieldAt P Tm k off0) (hUv : OneCell P Uv) (hU : ManyCells P U 2) (hUr : U = 277) (hB : ∀ ad n m, P.built U [(0, .slice ad n m)] = some #[.slice ad n m, .bool false])
    (hd : N ≤ t1 ∧ t1 + 1 < nt ∧ N ≤ t2 ∧ t2 + 1 < nt ∧ N ≤ t3 ∧ t3 + 3 < nt ∧ 2 < rs ∧ rs < bp ∧ bp < sv ∧ sv < N ∧ 3 ≤ nt ∧ N ≤ nt) (hd2 : N ≤ t4 ∧ t4 < nt ∧ N ≤ t7 ∧ t7 < nt ∧ sv < s ∧ s < N)
    (hRTm : RTMono RT) (hn : off0 < n) (hc : RdR RT P N nt gE E ver false [(sv, .int .i16 ver), (2, .bool false)] (s + 1) N s bp rs c n sch)
    (hver : w.cell? ⟨b, o + off0, none⟩ = some (.int .i16 ver)) (hDef : DefT P FD b o T off0 sch w) (hs : RB [b] w src bs) (hbs : bs.length ≤ lim) (hE : w.cell? ⟨gE, 0, none⟩ = some E) (hgE : gE ≠ b) (hb : b < w.heap.size) :
    Calls P f #[.pointer (some ⟨b, o, none⟩), src, .bool false] w (ReadPost RT E ver false sch b o off0 bs w) := by
  refine read_head hf hbody hnt he hT hUv hU hUr hB hd hver hDef hs hbs hE hgE hb fun a w2 rb cs hrb hN hdf hh hst hF hv hk => ?_
  obtain ⟨d1, d2, d3, d4, d5, d6, d7, d8, d9, d10, d11, d12⟩ := hd
  obtain ⟨c1, c2, c7, c8, c10, c11⟩ := hd2
  have x0 : aget a 0 = .pointer (some ⟨b, o, none⟩) := hh (0, .pointer (some ⟨b, o, none⟩)) (by simp)
  have x1 : aget a bp = .pointer (some ⟨rb, 0, none⟩) := hh (bp, .pointer (some ⟨rb, 0, none⟩)) (by simp)
  have x2 : aget a sv = .int .i16 ver := hh (sv, .int .i16 ver) (by simp)
  have x3 : aget a 2 = .bool false := hh (2, .bool false) (by simp)
  refine wp_seq (reg_flag (N := N) (t := N) (x0 := nt) (lo := N) hN x2 ⟨Nat.le_refl _, c1, c2, Nat.le_refl _⟩ fun a1 f1 _ => ?_)
  have s1 := f1.size.trans hN
  refine wp_seq (reg_copy (N := N) (t := N) (x0 := nt) (lo := s) s1 ((f1.same 0 (by omega) (.inl (by omega))).trans x0) ⟨Nat.le_refl _, c7, c8, Nat.le_refl _, c11⟩ fun a4 f4 x4 => ?_)
  refine read_tail hRTm hres hc (f4.size.trans s1) (f4.defers.trans (f1.defers.trans hdf)) ?_ hst hF hv hk hrb hn
  intro q hq
  simp only [List.mem_cons, List.not_mem_nil, or_false] at hq
  rcases hq with rfl | rfl | rfl | rfl
  · exact x4
  · exact (f4.same bp (by omega) (.inl (by omega))).trans ((f1.same bp (by omega) (.inl (by omega))).trans x1)
  · exact (f4.same sv (by omega) (.inl (by omega))).trans ((f1.same sv (by omega) (.inl (by omega))).trans x2)
  · exact (f4.same 2 (by omega) (.inl (by omega))).trans ((f1.same 2 (by omega) (.inl (by omega))).trans x3)
end
end Go.Proofs.YtfchajjllhndlabGreatDoor
