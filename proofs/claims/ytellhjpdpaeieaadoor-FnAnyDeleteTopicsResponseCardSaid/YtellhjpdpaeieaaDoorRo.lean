/- The code that reads a list, whole. -/
import Derived.Test.YtellhjpdpaeieaaDoorRn
namespace Go.Proofs.YtellhjpdpaeieaaDoor
open Go Go.RowKit
set_option linter.unusedVariables false

section
variable {RT : RTags} {P : Program} {N nt gE : Nat} {E : Value} {K : Slots} {lo t : Nat} {ver : Int} {flex : Bool}
/-- 'a = a[:0]' of a slice without things or room. -/
theorem wl_slice0 {w : World} {ops : Array Oper} {rest : List Oper} {a : Act} {Q : Exit → Act → World → Prop} {d s T e : Nat} {ty : TypeId} {pos : String} {af : Array Edge} {ad : Option Addr} (hT : P.underlying T = some (.slice e)) (hE : ∃ i, P.info? e = some i) (hs : aget a s = .slice ad 0 0)
    (h : wpList P ops Q rest (a.put (some d) (.slice ad 0 0)) w) : wpList P ops Q (⟨some d, .slice T (.tmp s) none (some (.const (.int .i64 0))) none, ty, pos, af, none⟩ :: rest) a w := by
  obtain ⟨i, hi⟩ := hE
  refine wl_value (v := .slice ad 0 0) (w' := w) rfl ?_ h
  have e0 : a.eval (.const (.int .i64 0)) = .int .i64 0 := rfl
  cases ad <;> simp [execOp, aget_eval, hs, e0, Instr.sliceAt, Instr.slice, Instr.sliceBounds, run_sliceBound, run_underlying hT, sizeOf, typeInfo, hi]
/-- What is known of the type of a list's things. -/
structure ElT (P : Program) (T e esz : Nat) (sch : Sch) : Prop where
  under : P.underlying T = some (.slice e)
  info : ∃ (i : TypeInfo) (z : Value), P.info? e = some i ∧ i.zero = some z ∧ i.size = esz ∧ z.cells.size = esz ∧ i.bytes ≤ 100000 ∧ Fresh z.cells.toList 0 sch
/-- 'if l > 0 { a = append(a, make([]T, l)...) }'. -/
theorem reg_make {u l t1 t2 T I e esz U1 U2 r r2 ty1 ty2 ty3 ty4 ty5 ty6 : Nat} {p1 p2 p3 p4 p5 p6 : String} {e1 e2 e3 e4 e5 e6 : Array Edge} {sch : Sch} {a : Act} {w : World} {ad : Option Addr} {n : Int} {Q : Exit → Act → World → Prop}
    (hT : ElT P T e esz sch) (hI : P.underlying I = some (.int .i32)) (hesz : 0 < esz) (htop : top sch ≤ esz) (hD : Dims N nt lo t) (hd : t ≤ t1 ∧ t1 + 1 < nt ∧ t ≤ t2 ∧ t2 + 2 < nt ∧ lo ≤ u ∧ u < N ∧ l < N)
    (hN : a.tmps.size = nt) (hu : aget a u = .slice ad 0 0) (hl : aget a l = .int .i32 n) (hn : n ≤ 2147483646)
    (hq0 : ∀ a', n ≤ 0 → Fr N lo t nt a a' → (∀ s, s ≠ u → s < N → aget a' s = aget a s) → aget a' u = .slice ad 0 0 → Q .normal a' w)
    (hq1 : ∀ a' cs cap, 0 < n → Fr N lo t nt a a' → (∀ s, s ≠ u → s < N → aget a' s = aget a s) → aget a' u = .slice (some ⟨w.heap.size, 0, none⟩) n.toNat cap → n.toNat ≤ cap → cap ≤ 9223372036854775807 → (∀ j, j < n.toNat → Fresh cs (j * esz) sch) → Q .normal a' (w.drew.alloc (.cells cs.toArray e))) :
    ((Code.region r #[⟨some t1, .move (.tmp l), ty1, p1, e1, none⟩, ⟨some (t1 + 1), .binOp .gtr U1 (.tmp t1) (.const (.int .i32 0)) U2, ty2, p2, e2, none⟩] false).seq
      (.cond (.tmp (t1 + 1)) (Code.region r2 #[⟨some t2, .move (.tmp u), ty3, p3, e3, none⟩, ⟨some (t2 + 1), .move (.tmp l), ty4, p4, e4, none⟩,
        ⟨some (t2 + 2), .call { callee := .builtin .append, args := #[.tmp t2, .tmp (t2 + 1)], argTypes := #[T, I] }, ty5, p5, e5, none⟩, ⟨some u, .assign (.tmp (t2 + 2)), ty6, p6, e6, none⟩] false) .skip)).wp P Q a w := by
  obtain ⟨d1, d2, d3, d4, d5, d6, d7⟩ := hd
  have g2 := hD.dLo; have g3 := hD.dT; have g4 := hD.dN
  refine wp_seq (wp_reg ?_)
  refine wl_move hl ?_
  refine wl_bin (r := .bool (decide (0 < n))) (x := .int .i32 n) (aget_put_same _ _ _ (by omega)) (eqGuard_at_int ..) (by simp [binOp, Op.intCmp]) ?_
  refine wpList_nil ?_
  have hf : Fr N lo t nt a ((a.put (some t1) (.int .i32 n)).put (some (t1 + 1)) (.bool (decide (0 < n)))) := ((Fr.refl N lo t nt a).put _ _ (by omega)).put _ _ (by omega)
  have hx : aget ((a.put (some t1) (.int .i32 n)).put (some (t1 + 1)) (.bool (decide (0 < n)))) (t1 + 1) = .bool (decide (0 < n)) := aget_put_same _ _ _ (by simp only [size_put]; omega)
  have hs : ∀ s, s < N → aget ((a.put (some t1) (.int .i32 n)).put (some (t1 + 1)) (.bool (decide (0 < n)))) s = aget a s := fun s h => by rw [aget_put_other _ _ _ s (by omega), aget_put_other _ _ _ s (by omega)]
  generalize ((a.put (some t1) (.int .i32 n)).put (some (t1 + 1)) (.bool (decide (0 < n)))) = a1 at *
  by_cases h0 : 0 < n
  · rw [decide_eq_true h0] at hx
    refine wp_cond_true hx (wp_reg ?_)
    have hN1 := hf.size.trans hN
    obtain ⟨i, z, hi, hz, hsz, hzs, hby, hfr⟩ := hT.info
    obtain ⟨m, rfl⟩ : ∃ m : Nat, n = m := ⟨n.toNat, by omega⟩
    rw [Int.toNat_natCast] at hq1
    have hrun := run_append_zeros (P := P) w T I ty5 e i z .i32 .i32 hT.under hI hi hz ad m (by omega) (by omega) (by omega) (by
      have := Nat.mul_le_mul (show m ≤ 2147483646 by omega) hby
      omega)
    refine wl_move (v := .slice ad 0 0) ((hs u d6).trans hu) ?_
    refine wl_move (v := .int .i32 (m : Nat)) (by rw [aget_put_other _ _ _ _ (by omega)]; exact (hs l d7).trans hl) ?_
    refine Lib.wpList_append_run _ rfl _ _ T I rfl (.slice ad 0 0) (.int .i32 (m : Nat)) ?_ ?_ _ _ hrun ?_
    · rw [aget_eval, aget_put_other _ _ _ _ (by omega)]; exact aget_put_same _ _ _ (by omega)
    · exact aget_put_same _ _ _ (by simp only [size_put]; omega)
    have hge := grownCap_ge w m 0 e
    have hcm : grownCap w m 0 e ≤ maxLen := grownCap_le_maxLen w m 0 e (by unfold maxLen; omega)
    unfold maxLen at hcm
    refine wl_assign (aget_put_same _ _ _ (by simp only [size_put]; omega)) ?_
    refine wpList_nil ?_
    have e0 : Builtin.zeroCells z.cells m ++ Builtin.zeroCells z.cells (grownCap w m 0 e - m) = (Builtin.zeroCells z.cells m ++ Builtin.zeroCells z.cells (grownCap w m 0 e - m)).toList.toArray := by simp
    rw [e0]
    refine hq1 _ _ (grownCap w m 0 e) h0 (hf.trans (((((Fr.refl N lo t nt a1).put _ _ (by omega)).put _ _ (by omega)).put _ _ (by omega)).put _ _ (by omega))) (fun s h1 h2 => ?_) (aget_put_same _ _ _ (by simp only [size_put]; omega)) hge (by simpa using hcm) (fun j hj => ?_)
    · rw [aget_put_other _ _ _ s (by omega), aget_put_other _ _ _ s (by omega), aget_put_other _ _ _ s (by omega), aget_put_other _ _ _ s (by omega)]
      exact hs s h2
    · rw [← hzs]
      exact made_fresh hfr (by omega) hj
  · rw [decide_eq_false h0] at hx
    exact wp_cond_false hx (wp_skip (hq0 a1 (by omega) hf (fun s _ h => hs s h) ((hs u d6).trans hu)))

/-- Back from the block of the things to the part. -/
theorem RSt.back {O : List Nat} {w w1 w2 : World} {rb b p T Tp : Nat} {cs csp : List Value} {st st' : Option (List UInt8)} (h : RSt gE E O w rb b cs T st) (hp : w.heap.size ≤ p) (h1 : Keeps [rb] w w1) (hk : Keeps [rb, p] w1 w2) (h2 : RSt gE E (p :: O) w2 rb p csp Tp st') : RSt gE E O w2 rb b cs T st' ∧ Keeps [rb, b] w w2 := by
  have hb : b < w.heap.size := h.lt b h.bO
  have hbp : b ≠ p := by omega
  have hkk : Keeps [rb] w w2 := (h1.mono (O' := [p, rb]) (by simp)).trans (hk.mono (by simp)) |>.close hp
  exact ⟨⟨h2.rdr.mono (fun k hk => List.mem_cons_of_mem _ hk), h.blk.keeps hkk (by simpa using h.ne), h.rbO, h.bO, h.ne, hlt_on h.lt hkk, h2.glob, h.gO⟩, keeps_rb hkk⟩

/-- The room, the loop, the store: behind the count. -/
theorem rd_tail {s bp rs u l i v t1 t2 t3 t4 t5 t6 t7 t8 t9 F F2 T T2 I e T' k U off esz lo' t' B B' r1 r2 r3 r4 r5 r6 r7 r8 r9 r10 UN U1 U2 U3 U4 U5 U6 : Nat}
    {y1 y2 y3 y4 y5 y6 y7 y8 y9 y10 y11 y12 y13 y14 y15 y16 y17 y18 y19 y20 y21 y22 y23 y24 y25 y26 y27 : Nat} {q1 q2 q3 q4 q5 q6 q7 q8 q9 q10 q11 q12 q13 q14 q15 q16 q17 q18 q19 q20 q21 q22 q23 q24 q25 q26 q27 : String} {g1 g2 g3 g4 g5 g6 g7 g8 g9 g10 g11 g12 g13 g14 g15 g16 g17 g18 g19 g20 g21 g22 g23 g24 g25 g26 g27 : Array Edge}
    {at_ at2 : Array TypeId} {c : Code} {nul : Option Int} {sch : Sch}
    (hRT : RTKeep RT) (hRM : RTMono RT) (hk : KOK N lo t ((s, .int .i64 0) :: (bp, .int .i64 0) :: K)) (hD : Dims N nt lo t) (hD' : Dims N nt lo' t')
    (heO : Enters P F) (hO : OkC P F) (heC : Enters P F2) (hC : CompleteC P F2 gE E) (hT : ElT P T e esz sch) (hT2 : ElT P T2 e esz sch) (hI : P.underlying I = some (.int .i32)) (hFA : FieldAt P T' k off) (hU : OneCell P U) (hesz : 0 < esz) (htop : top sch ≤ esz)
    (hd1 : t ≤ t1 ∧ t1 + 1 < nt ∧ t2 < nt ∧ rs < nt ∧ bp < lo ∧ t ≤ t3 ∧ t3 + 1 < nt ∧ t ≤ t4 ∧ t4 + 1 < nt ∧ t ≤ t5 ∧ t5 + 2 < nt ∧ t ≤ t6 ∧ t6 + 2 < nt ∧ t ≤ t7 ∧ t7 + 1 < nt ∧ t ≤ t8 ∧ t8 < nt ∧ t ≤ t9 ∧ t9 + 3 < nt)
    (hd2 : lo ≤ u ∧ u < N ∧ lo ≤ l ∧ l < N ∧ lo ≤ i ∧ i < N ∧ lo ≤ v ∧ v < N ∧ u < lo' ∧ l < lo' ∧ i < lo' ∧ lo ≤ lo' ∧ t ≤ t' ∧ u ≠ i ∧ l ≠ i ∧ u ≠ l) (hB : B ≠ B')
    (hEl : RdEl RT P N nt gE E ver flex K lo' t' u i bp rs c esz sch)
    (O : List Nat) (rb b o Tb : Nat) (a : Act) (w : World) (cs : List Value) (st : Option (List UInt8)) (Q : Exit → Act → World → Prop) (ad : Option Addr) (n : Int)
    (hN : a.tmps.size = nt) (hh : Holds ((s, .pointer (some ⟨b, o, none⟩)) :: (bp, .pointer (some ⟨rb, 0, none⟩)) :: K) a) (hst : RSt gE E O w rb b cs Tb ((st.bind (rdLen flex)).map (·.2))) (hlt : o + off < cs.length)
    (hu : aget a u = .slice ad 0 0) (hl : aget a l = .int .i32 n) (hn : ∀ m r, st.bind (rdLen flex) = some (m, r) → m = n) (hnul : nul.isSome = true → n ≤ 0 → (ad.isSome = true ↔ ¬ (n < 0 ∧ nullAt nul ver = true))) (had : nul.isSome = false → ad = none ∨ True)
    (hq : ∀ a' w' cs', RSt gE E O w' rb b cs' Tb ((st.bind (rd ver flex (.list nul esz sch))).map (·.2)) → Fr N lo t nt a a' → Keeps [rb, b] w w' → SameOut cs cs' (o + off) (o + (off + 1)) → (∀ v r, st.bind (rd ver flex (.list nul esz sch)) = some (v, r) → Rep RT O w' ver flex (.list nul esz sch) b (o + off) v) → Q .normal a' w')
    (hr : ∀ a' w', st.bind (rd ver flex (.list nul esz sch)) = none → a'.tmps.size = nt → a'.defers = a.defers → aget a' rs = E → Keeps [rb, b] w w' → Q .ret a' w') :
    (((Code.region r1 #[⟨some t1, .call { callee := .value (.func F), args := #[.tmp bp], argTypes := at_ }, y1, q1, g1, none⟩, ⟨some (t1 + 1), .unOp .not UN (.tmp t1), y2, q2, g2, none⟩] false).seq
      (.cond (.tmp (t1 + 1)) ((Code.region r2 #[⟨some t2, .call { callee := .value (.func F2), args := #[.tmp bp], argTypes := at2 }, y3, q3, g3, none⟩, ⟨some rs, .assign (.tmp t2), y4, q4, g4, none⟩] false).seq .ret) .skip)).seq
    ((Code.region r3 #[⟨some t3, .move (.tmp u), y5, q5, g5, none⟩, ⟨some (t3 + 1), .slice T2 (.tmp t3) none (some (.const (.int .i64 0))) none, y6, q6, g6, none⟩, ⟨some u, .assign (.tmp (t3 + 1)), y7, q7, g7, none⟩] false).seq
    (((Code.region r4 #[⟨some t4, .move (.tmp l), y8, q8, g8, none⟩, ⟨some (t4 + 1), .binOp .gtr U1 (.tmp t4) (.const (.int .i32 0)) U2, y9, q9, g9, none⟩] false).seq
      (.cond (.tmp (t4 + 1)) (Code.region r5 #[⟨some t5, .move (.tmp u), y10, q10, g10, none⟩, ⟨some (t5 + 1), .move (.tmp l), y11, q11, g11, none⟩,
        ⟨some (t5 + 2), .call { callee := .builtin .append, args := #[.tmp t5, .tmp (t5 + 1)], argTypes := #[T, I] }, y12, q12, g12, none⟩, ⟨some u, .assign (.tmp (t5 + 2)), y13, q13, g13, none⟩] false) .skip)).seq
    (((Code.region r6 #[⟨some i, .assign (.const (.int .i32 0)), y14, q14, g14, none⟩] false).seq (.block B (.loop
      (((Code.region r7 #[⟨some t6, .move (.tmp i), y15, q15, g15, none⟩, ⟨some (t6 + 1), .move (.tmp l), y16, q16, g16, none⟩, ⟨some (t6 + 2), .binOp .lss U3 (.tmp t6) (.tmp (t6 + 1)) U4, y17, q17, g17, none⟩] false).seq (.cond (.tmp (t6 + 2)) .skip (.exit B))).seq
        ((Code.block B' c).seq (.region r8 #[⟨some t7, .move (.tmp i), y18, q18, g18, none⟩, ⟨some (t7 + 1), .binOp .add U5 (.tmp t7) (.const (.int .i32 1)) U6, y19, q19, g19, none⟩, ⟨some i, .assign (.tmp (t7 + 1)), y20, q20, g20, none⟩] false)))))).seq
    ((Code.region r9 #[⟨some t8, .move (.tmp u), y21, q21, g21, none⟩, ⟨some v, .assign (.tmp t8), y22, q22, g22, none⟩] false).seq
      (.region r10 #[⟨some t9, .move (.tmp s), y23, q23, g23, none⟩, ⟨some (t9 + 1), .move (.tmp v), y24, q24, g24, none⟩, ⟨some (t9 + 2), .nilCheck (.tmp t9), y25, q25, g25, none⟩, ⟨some (t9 + 3), .fieldAddr T' (.tmp (t9 + 2)) k, y26, q26, g26, none⟩,
        ⟨none, .store U (.tmp (t9 + 3)) (.tmp (t9 + 1)), y27, q27, g27, none⟩] false)))))).wp P Q a w := by
  obtain ⟨c1, c2, c3, c4, c5, c6, c7, c8, c9, c10, c11, c12, c13, c14, c15, c16, c17, c18, c19⟩ := hd1
  obtain ⟨d1, d2, d3, d4, d5, d6, d7, d8, d9, d10, d11, d12, d13, d14, d15, d16⟩ := hd2
  have x1 := hD.dOne; have x2 := hD.dLo; have x3 := hD.dT; have x4 := hD.dN
  have tot := rd_list ver flex nul esz sch st
  refine wp_seq (reg_ok heO hO heC hC hN hh.tail.head hst.rdr hst.glob hD ⟨c1, c2, c3, c4, by omega, by omega⟩ (fun a1 hs1 hf1 hkeep1 => ?_) (fun a1 hs1 h1 h2 h3 => ?_))
  rotate_left
  · refine hr a1 w ?_ h1 h2 h3 (Keeps.refl _ _)
    rw [tot]
    cases hx : st.bind (rdLen flex) with
    | none => rfl
    | some q => rw [hx] at hs1; cases hs1
  obtain ⟨r, hlen⟩ : ∃ r, st.bind (rdLen flex) = some (n, r) := by
    cases hx : st.bind (rdLen flex) with
    | none => rw [hx] at hs1; cases hs1
    | some q =>
      refine ⟨q.2, ?_⟩
      rw [← hn q.1 q.2 hx]
  rw [hlen] at hst tot
  rw [Option.bind_some] at tot
  dsimp only at tot
  change RSt gE E O w rb b cs Tb (some r) at hst
  have hrM : r.length ≤ 2147483646 := by obtain ⟨sv, -, -, h⟩ := hst.rdr; exact h
  have hnr : n ≤ r.length := by
    cases st with
    | none => cases hlen
    | some bs => exact (out_len hlen).1
  have hN1 := hf1.size.trans hN
  have hu1 : aget a1 u = .slice ad 0 0 := (hkeep1 u d2).trans hu
  have hl1 : aget a1 l = .int .i32 n := (hkeep1 l d4).trans hl
  clear hkeep1 hs1
  -- the store
  have fin : ∀ (a4 : Act) (w4 : World) (x : Value) (st4 : Option (List UInt8)), Fr N lo t nt a a4 → aget a4 u = x → One x → RSt gE E O w4 rb b cs Tb st4 → (∀ a', Fr N lo t nt a a' → Q .normal a' (w4.setCell ⟨b, o + off, none⟩ x)) →
      ((Code.region r9 #[⟨some t8, .move (.tmp u), y21, q21, g21, none⟩, ⟨some v, .assign (.tmp t8), y22, q22, g22, none⟩] false).seq
      (.region r10 #[⟨some t9, .move (.tmp s), y23, q23, g23, none⟩, ⟨some (t9 + 1), .move (.tmp v), y24, q24, g24, none⟩, ⟨some (t9 + 2), .nilCheck (.tmp t9), y25, q25, g25, none⟩, ⟨some (t9 + 3), .fieldAddr T' (.tmp (t9 + 2)) k, y26, q26, g26, none⟩,
        ⟨none, .store U (.tmp (t9 + 3)) (.tmp (t9 + 1)), y27, q27, g27, none⟩] false)).wp P Q a4 w4 := by
    intro a4 w4 x st4 hf4 hx hone hst4 hqq
    have hN4 := hf4.size.trans hN
    refine wp_seq (wp_reg ?_)
    refine wl_move hx ?_
    refine wl_assign (aget_put_same _ _ _ (by omega)) ?_
    refine wpList_nil ?_
    have hf5 : Fr N lo t nt a ((a4.put (some t8) x).put (some v) x) := hf4.trans (((Fr.refl N lo t nt a4).put _ _ (by omega)).put _ _ (by omega))
    have hh5 := hh.frR (kokR hk) hD hf5
    exact reg_store hFA hU (hf5.size.trans hN) hh5.head (aget_put_same _ _ _ (by simp only [size_put]; omega)) hone hst4.blk hlt hD ⟨c18, c19, by omega⟩ fun a' hf => hqq a' (hf5.trans hf)
  refine wp_seq (wp_reg ?_)
  refine wl_move hu1 ?_
  obtain ⟨ti, tz, hti, -⟩ := hT2.info
  refine wl_slice0 hT2.under ⟨ti, hti⟩ (aget_put_same _ _ _ (by omega)) ?_
  refine wl_assign (aget_put_same _ _ _ (by simp only [size_put]; omega)) ?_
  refine wpList_nil ?_
  have hf2 : Fr N lo t nt a (((a1.put (some t3) (.slice ad 0 0)).put (some (t3 + 1)) (.slice ad 0 0)).put (some u) (.slice ad 0 0)) := hf1.trans ((((Fr.refl N lo t nt a1).put _ _ (by omega)).put _ _ (by omega)).put _ _ (by omega))
  have hu2 : aget (((a1.put (some t3) (.slice ad 0 0)).put (some (t3 + 1)) (.slice ad 0 0)).put (some u) (.slice ad 0 0)) u = .slice ad 0 0 := aget_put_same _ _ _ (by simp only [size_put]; omega)
  have hl2 : aget (((a1.put (some t3) (.slice ad 0 0)).put (some (t3 + 1)) (.slice ad 0 0)).put (some u) (.slice ad 0 0)) l = .int .i32 n := by rw [aget_put_other _ _ _ l (by omega), aget_put_other _ _ _ l (by omega), aget_put_other _ _ _ l (by omega)]; exact hl1
  generalize (((a1.put (some t3) (.slice ad 0 0)).put (some (t3 + 1)) (.slice ad 0 0)).put (some u) (.slice ad 0 0)) = a2 at *
  clear hu1 hl1 hf1 hN1
  simp only [Exit.then]
  refine wp_seq (reg_make hT hI hesz htop hD ⟨c8, c9, c10, c11, d1, d2, d4⟩ (hf2.size.trans hN) hu2 hl2 (by omega) (fun a3 h0 hf3 hs3 hu3 => ?_) (fun a3 csp cap h0 hf3 hs3 hu3 hcap1 hcap2 hfr => ?_))
  · -- nothing to read
    have hl3 : aget a3 l = .int .i32 n := (hs3 l (by omega) d4).trans hl2
    refine wp_seq (rd_for0 hD ⟨c12, c13, d3, d4, d5, d6, d15⟩ a3 w n _ ((hf2.trans hf3).size.trans hN) h0 hl3 fun a4 hf4 hs4 => ?_)
    refine fin a4 w (.slice ad 0 0) (some r) ((hf2.trans hf3).trans hf4) ((hs4 u d14 d2).trans hu3) ⟨rfl, rfl⟩ hst fun a' hf' => ?_
    have hstore := hst.store (o + off) (.slice ad 0 0)
    have hcell : (w.setCell ⟨b, o + off, none⟩ (.slice ad 0 0)).cell? ⟨b, o + off, none⟩ = some (.slice ad 0 0) := (hst.blk.set (o + off) _).cell_some (by rw [List.getElem?_set_self hlt])
    refine hq a' (w.setCell ⟨b, o + off, none⟩ (.slice ad 0 0)) (cs.set (o + off) (.slice ad 0 0)) ?_ hf' (keeps_b w _ _) ((SameOut.set cs (o + off) (.slice ad 0 0)).mono (by omega) (by omega)) fun gv r' hv => ?_
    · rw [tot]
      by_cases hnl : n < 0 ∧ nullAt nul ver = true
      · rw [if_pos hnl]; exact hstore
      · rw [if_neg hnl, show n.toNat = 0 by omega]; exact hstore
    · rw [tot] at hv
      by_cases hnl : n < 0 ∧ nullAt nul ver = true
      · rw [if_pos hnl] at hv
        cases hv
        have hns : nul.isSome = true := by
          cases nul with
          | none => exact absurd hnl.2 (by simp [nullAt])
          | some m => rfl
        have had2 : ad = none := by
          have := hnul hns h0
          cases ad with
          | none => rfl
          | some x => exact absurd hnl (this.1 rfl)
        subst had2
        exact ⟨hns, hcell⟩
      · rw [if_neg hnl, show n.toNat = 0 by omega] at hv
        cases hv
        exact ⟨ad, 0, hcell, by simp, fun hns => (hnul hns h0).2 hnl, fun h => absurd rfl h⟩
  · -- things
    have hl3 : aget a3 l = .int .i32 (n.toNat : Nat) := by rw [Int.toNat_of_nonneg (by omega)]; exact (hs3 l (by omega) d4).trans hl2
    have hf03 := hf2.trans hf3
    have hh3 := hh.frR (kokR hk) hD hf03
    have hk1 : Keeps [rb] w (w.drew.alloc (.cells csp.toArray e)) := ((Keeps.refl [rb] w).drew).alloc _
    have hk0 : Keeps [] w (w.drew.alloc (.cells csp.toArray e)) := ((Keeps.refl [] w).drew).alloc _
    have hrst1 : RSt gE E (w.heap.size :: O) (w.drew.alloc (.cells csp.toArray e)) rb w.heap.size csp e (some r) := by
      refine ⟨?_, Blk.alloc_new w.drew csp e, List.mem_cons_of_mem _ hst.rbO, List.mem_cons_self .., ?_, ?_, ?_, ?_⟩
      · exact (hst.rdr.open (Nat.le_refl _)).other (O' := []) hk0 (by simp) (by simp)
      · have := hst.lt rb hst.rbO; omega
      · intro k hk'
        rcases List.mem_cons.1 hk' with rfl | hk'
        · simp
        · have := hst.lt k hk'
          simp
          omega
      · exact (World.cell?_of_block (hk0.block gE (World.block_lt_of_cell? w _ hst.glob) (by simp))).trans hst.glob
      · intro hx
        rcases List.mem_cons.1 hx with hx | hx
        · have := World.block_lt_of_cell? w _ hst.glob
          simp at this
          omega
        · exact hst.gO hx
    refine wp_seq (rd_for hRT (fun q hq => hk q (by simp only [List.mem_cons] at hq ⊢; rcases hq with rfl | hq; exact .inr (.inl rfl); exact .inr (.inr hq))) hD hD' ⟨c12, c13, c14, c15, d1, d2, d3, d4, d5, d6, d9, d10, d11, d12, d13, d14, d15, d16⟩ hB htop hesz hEl (w.heap.size :: O) rb w.heap.size e n.toNat cap a3 _ csp (some r) _
      (hf03.size.trans hN) hh3.tail (by omega) hrst1 hl3 hu3 hfr (fun a4 w4 cs4 hst4 hf4 hu4 hk4 hv4 => ?_) (fun a4 w4 hn4 hs4 hd4 hE4 hk4 => ?_))
    · obtain ⟨hb4, hkb⟩ := hst.back (Nat.le_refl _) hk1 hk4 hst4
      refine fin a4 w4 (.slice (some ⟨w.heap.size, 0, none⟩) n.toNat cap) _ (hf03.trans hf4) hu4 ⟨rfl, rfl⟩ hb4 fun a' hf' => ?_
      have hstore := hb4.store (o + off) (.slice (some ⟨w.heap.size, 0, none⟩) n.toNat cap)
      have hcell : (w4.setCell ⟨b, o + off, none⟩ (.slice (some ⟨w.heap.size, 0, none⟩) n.toNat cap)).cell? ⟨b, o + off, none⟩ = some (.slice (some ⟨w.heap.size, 0, none⟩) n.toNat cap) := (hb4.blk.set (o + off) _).cell_some (by rw [List.getElem?_set_self hlt])
      have hnl : ¬ (n < 0 ∧ nullAt nul ver = true) := fun h => by omega
      rw [if_neg hnl] at tot
      have tot2 : st.bind (rd ver flex (.list nul esz sch)) = ((some r).bind (rdMany (rd ver flex sch) n.toNat)).bind fun q => some (.list q.1, q.2) := tot
      refine hq a' (w4.setCell ⟨b, o + off, none⟩ (.slice (some ⟨w.heap.size, 0, none⟩) n.toNat cap)) (cs.set (o + off) (.slice (some ⟨w.heap.size, 0, none⟩) n.toNat cap)) ?_ hf' (hkb.trans (keeps_b w4 _ _)) ((SameOut.set cs (o + off) _).mono (by omega) (by omega)) fun gv r' hv => ?_
      · rw [tot2]
        cases hx : (some r).bind (rdMany (rd ver flex sch) n.toNat) with
        | none => rw [hx] at hstore; exact hstore
        | some q => rw [hx] at hstore; exact hstore
      · rw [tot2] at hv
        cases hx : (some r).bind (rdMany (rd ver flex sch) n.toNat) with
        | none => rw [hx] at hv; cases hv
        | some q =>
          rw [hx] at hv
          simp only [Option.bind_some, Option.some.injEq, Prod.mk.injEq] at hv
          obtain ⟨rfl, rfl⟩ := hv
          obtain ⟨hlen2, hrep⟩ := hv4 q.1 q.2 hx
          have hkO : Keeps O w4 (w4.setCell ⟨b, o + off, none⟩ (.slice (some ⟨w.heap.size, 0, none⟩) n.toNat cap)) := (Keeps.refl O w4).setCell hst.bO _
          refine ⟨some ⟨w.heap.size, 0, none⟩, cap, by rw [hlen2]; exact hcell, by omega, fun _ => rfl, fun _ => ⟨w.heap.size, 0, rfl, new_notin hst.lt, ?_, fun j x hj => ?_⟩⟩
          · have := hst4.blk.lt
            simpa [World.setCell] using this
          · rw [Nat.zero_add]
            refine ((hrep j x hj).mono hRM fun k hk => List.mem_cons_of_mem _ hk).move hRT hkO fun m _ => ?_
            exact World.cell?_of_block (hkO.block _ hst4.blk.lt (new_notin hst.lt))
    · have hkb := (hk1.mono (O' := [w.heap.size, rb]) (by simp)).trans (hk4.mono (by simp)) |>.close (Nat.le_refl _)
      refine hr a4 w4 ?_ hs4 (hd4.trans hf03.defers) hE4 (keeps_rb hkb)
      rw [tot, if_neg (fun h => by omega)]
      change ((some r).bind (rdMany (rd ver flex sch) n.toNat)).bind _ = none
      rw [hn4]
      rfl
end
end Go.Proofs.YtellhjpdpaeieaaDoor
