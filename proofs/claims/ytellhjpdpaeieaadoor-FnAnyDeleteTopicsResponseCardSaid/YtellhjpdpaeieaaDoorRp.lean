/- The code that reads lists, things of lists, tags. -/
import Derived.Test.YtellhjpdpaeieaaDoorRo
namespace Go.Proofs.YtellhjpdpaeieaaDoor
open Go Go.RowKit
set_option linter.unusedVariables false

section
variable {RT : RTags} {P : Program} {N nt gE : Nat} {E : Value} {K : Slots} {lo t : Nat} {ver : Int} {flex : Bool}
theorem RSt.upd {O : List Nat} {w w' : World} {rb b T : Nat} {cs cs' : List Value} {st : Option (List UInt8)} (h : RSt gE E O w rb b cs T st) (hb : Blk w' b cs' T) (hk : Keeps [b] w w') : RSt gE E O w' rb b cs' T st :=
  ⟨h.rdr.other hk (by simpa using fun e => h.ne e.symm) (by simpa using h.bO), hb, h.rbO, h.bO, h.ne, hlt_on h.lt hk, (World.cell?_of_block (hk.block gE (World.block_lt_of_cell? w _ h.glob) (by rintro hx; rw [List.mem_singleton] at hx; exact h.gO (hx ▸ h.bO)))).trans h.glob, h.gO⟩
/-- All behind the count of a list. -/
def RdTail (RT : RTags) (P : Program) (N nt gE : Nat) (E : Value) (ver : Int) (flex : Bool) (K : Slots) (lo t s bp rs u l : Nat) (ct : Code) (off : Nat) (nul : Option Int) (esz : Nat) (sch : Sch) : Prop :=
  ∀ (O : List Nat) (rb b o Tb : Nat) (a : Act) (w : World) (cs : List Value) (st : Option (List UInt8)) (Q : Exit → Act → World → Prop) (ad : Option Addr) (n : Int),
    a.tmps.size = nt → Holds ((s, .pointer (some ⟨b, o, none⟩)) :: (bp, .pointer (some ⟨rb, 0, none⟩)) :: K) a → RSt gE E O w rb b cs Tb ((st.bind (rdLen flex)).map (·.2)) → o + off < cs.length →
    aget a u = .slice ad 0 0 → aget a l = .int .i32 n → (∀ m r, st.bind (rdLen flex) = some (m, r) → m = n) → (nul.isSome = true → n ≤ 0 → (ad.isSome = true ↔ ¬ (n < 0 ∧ nullAt nul ver = true))) →
    (∀ a' w' cs', RSt gE E O w' rb b cs' Tb ((st.bind (rd ver flex (.list nul esz sch))).map (·.2)) → Fr N lo t nt a a' → Keeps [rb, b] w w' → SameOut cs cs' (o + off) (o + (off + 1)) → (∀ v r, st.bind (rd ver flex (.list nul esz sch)) = some (v, r) → Rep RT O w' ver flex (.list nul esz sch) b (o + off) v) → Q .normal a' w') →
    (∀ a' w', st.bind (rd ver flex (.list nul esz sch)) = none → a'.tmps.size = nt → a'.defers = a.defers → aget a' rs = E → Keeps [rb, b] w w' → Q .ret a' w') → ct.wp P Q a w
theorem rdF_list0 {s bp rs u l v t1 t2 T' k U off r1 r2 r3 y1 y2 y3 y4 y5 y6 y7 y8 esz : Nat} {q1 q2 q3 q4 q5 q6 q7 q8 : String} {g1 g2 g3 g4 g5 g6 g7 g8 : Array Edge} {ct : Code} {nul : Option Int} {sch : Sch}
    (hk : KOK N lo t ((s, .int .i64 0) :: (bp, .int .i64 0) :: K)) (hT : FieldAt P T' k off) (hU : OneCell P U) (hD : Dims N nt lo t) (hd : t ≤ t1 ∧ t1 + 3 < nt ∧ lo ≤ v ∧ v < N ∧ t ≤ t2 ∧ t2 < nt ∧ lo ≤ u ∧ u < N ∧ lo ≤ l ∧ l < N ∧ u ≠ l)
    (h : ∀ (O : List Nat) (rb b o Tb : Nat) (a : Act) (w : World) (cs : List Value) (st : Option (List UInt8)) (Q : Exit → Act → World → Prop), a.tmps.size = nt → Holds ((s, .pointer (some ⟨b, o, none⟩)) :: (bp, .pointer (some ⟨rb, 0, none⟩)) :: K) a → RSt gE E O w rb b cs Tb st → o + off < cs.length → aget a u = .slice none 0 0 →
      (∀ a' w' cs', RSt gE E O w' rb b cs' Tb ((st.bind (rd ver flex (.list nul esz sch))).map (·.2)) → Fr N lo t nt a a' → Keeps [rb, b] w w' → SameOut cs cs' (o + off) (o + (off + 1)) → (∀ v r, st.bind (rd ver flex (.list nul esz sch)) = some (v, r) → Rep RT O w' ver flex (.list nul esz sch) b (o + off) v) → Q .normal a' w') →
      (∀ a' w', st.bind (rd ver flex (.list nul esz sch)) = none → a'.tmps.size = nt → a'.defers = a.defers → aget a' rs = E → Keeps [rb, b] w w' → Q .ret a' w') → ct.wp P Q a w) :
    RdF RT P N nt gE E ver flex K lo t s bp rs ((Code.region r1 #[⟨some t1, .move (.tmp s), y1, q1, g1, none⟩, ⟨some (t1 + 1), .nilCheck (.tmp t1), y2, q2, g2, none⟩, ⟨some (t1 + 2), .fieldAddr T' (.tmp (t1 + 1)) k, y3, q3, g3, none⟩,
      ⟨some (t1 + 3), .load U (.tmp (t1 + 2)), y4, q4, g4, none⟩, ⟨some v, .assign (.tmp (t1 + 3)), y5, q5, g5, none⟩] false).seq
      ((Code.region r2 #[⟨some t2, .move (.tmp v), y6, q6, g6, none⟩, ⟨some u, .assign (.tmp t2), y7, q7, g7, none⟩] false).seq
      ((Code.region r3 #[⟨some l, .assign (.const (.int .i32 0)), y8, q8, g8, none⟩] false).seq ct))) off (.list nul esz sch) := by
  intro O rb b o Tb a w cs st Q hN hh hst hF hq hr
  obtain ⟨d1, d2, d3, d4, d5, d6, d7, d8, d9, d10, d11⟩ := hd
  have x1 := hD.dOne; have x2 := hD.dLo; have x3 := hD.dT; have x4 := hD.dN
  have hc : cs[o + off]? = some (.slice none 0 0) := hF
  have hlt : o + off < cs.length := (List.getElem?_eq_some_iff.1 hc).1
  refine wp_seq (reg_load (x0 := nt) (lo := lo) hT hU hN hh.head (x := .slice none 0 0) (by rw [Addr.add_lit]; exact hst.blk.cell_some hc) ⟨hD.dT, d1, d2, d3, d4⟩ fun a1 hf1 hx1 => ?_)
  have hN1 := hf1.size.trans hN
  refine wp_seq (reg_copy (x0 := nt) (lo := lo) hN1 hx1 ⟨hD.dT, d5, d6, d7, d8⟩ fun a2 hf2 hx2 => ?_)
  refine wp_seq (wp_reg (wl_assign_c (wpList_nil ?_)))
  have hf3 : Fr N lo t nt a (a2.put (some l) (.int .i32 0)) := (hf1.trans hf2).trans ((Fr.refl N lo t nt a2).put _ _ (by omega))
  exact h O rb b o Tb _ w cs st Q (hf3.size.trans hN) (hh.frR (kokR hk) hD hf3) hst hlt (by rw [aget_put_other _ _ _ u (by omega)]; exact hx2) (fun a' w' cs' k1 k2 => hq a' w' cs' k1 (hf3.trans k2)) (fun a' w' k1 k2 k3 => hr a' w' k1 k2 (k3.trans hf3.defers))
theorem rdF_list {s bp rs u l v t1 t2 T' k U off r1 r2 r3 y1 y2 y3 y4 y5 y6 y7 y8 esz : Nat} {q1 q2 q3 q4 q5 q6 q7 q8 : String} {g1 g2 g3 g4 g5 g6 g7 g8 : Array Edge} {cl ct : Code} {sch : Sch}
    (hk : KOK N lo t ((s, .int .i64 0) :: (bp, .int .i64 0) :: K)) (hT : FieldAt P T' k off) (hU : OneCell P U) (hD : Dims N nt lo t) (hd : t ≤ t1 ∧ t1 + 3 < nt ∧ lo ≤ v ∧ v < N ∧ t ≤ t2 ∧ t2 < nt ∧ lo ≤ u ∧ u < N ∧ lo ≤ l ∧ l < N ∧ u ≠ l)
    (hl : RdLn P N nt gE E flex K lo t bp cl l) (ht : RdTail RT P N nt gE E ver flex K lo t s bp rs u l ct off none esz sch) :
    RdF RT P N nt gE E ver flex K lo t s bp rs ((Code.region r1 #[⟨some t1, .move (.tmp s), y1, q1, g1, none⟩, ⟨some (t1 + 1), .nilCheck (.tmp t1), y2, q2, g2, none⟩, ⟨some (t1 + 2), .fieldAddr T' (.tmp (t1 + 1)) k, y3, q3, g3, none⟩,
      ⟨some (t1 + 3), .load U (.tmp (t1 + 2)), y4, q4, g4, none⟩, ⟨some v, .assign (.tmp (t1 + 3)), y5, q5, g5, none⟩] false).seq
      ((Code.region r2 #[⟨some t2, .move (.tmp v), y6, q6, g6, none⟩, ⟨some u, .assign (.tmp t2), y7, q7, g7, none⟩] false).seq
      ((Code.region r3 #[⟨some l, .assign (.const (.int .i32 0)), y8, q8, g8, none⟩] false).seq (cl.seq ct)))) off (.list none esz sch) := by
  refine rdF_list0 hk hT hU hD hd fun O rb b o Tb a w cs st Q hN hh hst hlt hu hq hr => ?_
  refine wp_seq (hl O rb b Tb a w cs st _ hN hh.tail hst fun a1 w1 n hl1 hst1 hf1 hs1 hk1 hn1 => ?_)
  exact ht O rb b o Tb a1 w1 cs st Q none n (hf1.size.trans hN) (hh.frR (kokR hk) hD hf1) hst1 hlt ((hs1 u hd.2.2.2.2.2.2.2.2.2.2 hd.2.2.2.2.2.2.2.1).trans hu) hl1 hn1 (fun h => nomatch h)
    (fun a' w' cs' k1 k2 k3 => hq a' w' cs' k1 (hf1.trans k2) ((keeps_rb hk1).trans k3)) (fun a' w' k1 k2 k3 k4 k5 => hr a' w' k1 k2 (k3.trans hf1.defers) k4 ((keeps_rb hk1).trans k5))
theorem run_build0 {Ts e y : Nat} {q : String} {g : Array Edge} {d : Option Nat} {i : TypeInfo} (hT : P.underlying Ts = some (.slice e)) (hi : P.info? e = some i) (w : World) (a : Act) :
    (execOp a.eval ⟨d, .buildSlice Ts 0 #[], y, q, g, none⟩).run P w = .ok (.value (.slice (some ⟨w.heap.size, 0, none⟩) 0 0)) (w.alloc (.cells #[] e)) := by
  simp [execOp, Instr.buildSlice, run_underlying hT, sizeOf, typeInfo, hi, newRow, Instr.fill]
  rw [show Array.range 0 = #[] from rfl, Array.map_empty]
theorem reg_nul {a : Act} {w : World} {Q : Exit → Act → World → Prop} {u l t1 r x0 ty1 ty2 ty3 ty4 ty5 ty6 T U T' U' : Nat} {p1 p2 p3 p4 p5 p6 : String} {e1 e2 e3 e4 e5 e6 : Array Edge} {x n m : Int} (hN : a.tmps.size = nt) (hs : aget a u = .int .i16 x) (hl : aget a l = .int .i32 n) (hd : N ≤ t ∧ t ≤ t1 ∧ t1 + 5 < nt ∧ lo ≤ N ∧ u ≠ t1 ∧ u ≠ t1 + 1 ∧ u ≠ t1 + 2 ∧ l ≠ t1 ∧ l ≠ t1 + 1 ∧ l ≠ t1 + 2)
    (h : ∀ a', Fr N lo t x0 a a' → aget a' (t1 + 5) = .bool (decide (x < m) || decide (n = 0)) → Q .normal a' w) :
    (Code.region r #[⟨some t1, .move (.tmp u), ty1, p1, e1, none⟩, ⟨some (t1 + 1), .binOp .lss T (.tmp t1) (.const (.int .i16 m)) U, ty2, p2, e2, none⟩, ⟨some (t1 + 2), .move (.tmp (t1 + 1)), ty3, p3, e3, none⟩,
      ⟨some (t1 + 3), .move (.tmp l), ty4, p4, e4, some (2, false)⟩, ⟨some (t1 + 4), .binOp .eql T' (.tmp (t1 + 3)) (.const (.int .i32 0)) U', ty5, p5, e5, some (2, false)⟩,
      ⟨some (t1 + 5), .pick (.tmp (t1 + 2)) (.const (.bool true)) (.tmp (t1 + 4)), ty6, p6, e6, none⟩] false).wp P Q a w := by
  obtain ⟨h1, h2, h3, h4, h5, h6, h7, h8, h9, h10⟩ := hd
  refine wp_reg ?_
  refine wl_move hs ?_
  refine wl_bin (r := .bool (decide (x < m))) (aget_put_same _ _ _ (by (first | rw [hN] | simp only [size_put, hN]); omega)) (eqGuard_at_int ..) (by rw [run_cmp_i16]) ?_
  refine wl_move (aget_put_same _ _ _ (by (first | rw [hN] | simp only [size_put, hN]); omega)) ?_
  have hy : ∀ (A : Act) (b : Bool) (l : Array Oper) (o : Oper), l[2]? = some o → o.dst = some (t1 + 2) → aget A (t1 + 2) = .bool b → t1 + 2 < A.tmps.size → yielded l A.tmps 2 = some b := by
    intro A b l o hl ho hA hlt
    unfold aget at hA
    rw [Array.getD_eq_getD_getElem?, Array.getElem?_eq_getElem hlt] at hA
    simp at hA
    simp [yielded, hl, ho, hlt, hA]
  by_cases hn : x < m
  · rw [decide_eq_true hn]
    refine wpList_step fun K hK => ?_
    rw [if_neg (by
      simp only [Region.wanted]
      rw [hy _ true _ _ rfl rfl (aget_put_same _ _ _ (by (first | rw [hN] | simp only [size_put, hN]); omega)) (by (first | rw [hN] | simp only [size_put, hN]); omega)]
      decide)]
    refine hK _ _ ?_
    refine wpList_step fun K2 hK2 => ?_
    rw [if_neg (by
      simp only [Region.wanted]
      rw [hy _ true _ _ rfl rfl (by rw [aget_put_other _ _ _ _ (by omega)]; exact aget_put_same _ _ _ (by (first | rw [hN] | simp only [size_put, hN]); omega)) (by (first | rw [hN] | simp only [size_put, hN]); omega)]
      decide)]
    refine hK2 _ _ ?_
    refine wl_value (v := .bool (decide (x < m) || decide (n = 0))) (w' := w) rfl ?_ ?_
    · have e2 : ∀ A : Act, aget A (t1 + 2) = .bool true → (execOp A.eval ⟨some (t1 + 5), .pick (.tmp (t1 + 2)) (.const (.bool true)) (.tmp (t1 + 4)), ty6, p6, e6, none⟩).run P w = .ok (.value (.bool (decide (x < m) || decide (n = 0)))) w := by
        intro A hA
        have e3 : A.eval (.const (.bool true)) = .bool true := rfl
        simp [execOp, aget_eval, hA, asBool, hn, e3]
      refine e2 _ ?_
      rw [aget_put_other _ _ _ _ (by omega), aget_put_other _ _ _ _ (by omega)]
      exact aget_put_same _ _ _ (by (first | rw [hN] | simp only [size_put, hN]); omega)
    · exact wpList_nil (h _ (((((((Fr.refl N lo t x0 a).put _ _ (by omega)).put _ _ (by omega)).put _ _ (by omega)).put _ _ (by omega)).put _ _ (by omega)).put _ _ (by omega)) (aget_put_same _ _ _ (by (first | rw [hN] | simp only [size_put, hN]); omega)))
  · rw [decide_eq_false hn]
    refine wpList_step fun K hK => ?_
    rw [if_pos (by
      simp only [Region.wanted]
      rw [hy _ false _ _ rfl rfl (aget_put_same _ _ _ (by (first | rw [hN] | simp only [size_put, hN]); omega)) (by (first | rw [hN] | simp only [size_put, hN]); omega)]
      rfl)]
    unfold Oper.wp
    have e0 : ∀ A : Act, aget A l = .int .i32 n → (execOp A.eval ⟨some (t1 + 3), .move (.tmp l), ty4, p4, e4, some (2, false)⟩).run P w = .ok (.value (.int .i32 n)) w := by
      intro A hA
      simp [execOp, aget_eval, hA]
    rw [e0 _ (by rw [aget_put_other _ _ _ _ (by omega), aget_put_other _ _ _ _ (by omega), aget_put_other _ _ _ _ (by omega)]; exact hl)]
    refine hK _ _ ?_
    refine wpList_step fun K2 hK2 => ?_
    rw [if_pos (by
      simp only [Region.wanted]
      rw [hy _ false _ _ rfl rfl (by rw [aget_put_other _ _ _ _ (by omega)]; exact aget_put_same _ _ _ (by (first | rw [hN] | simp only [size_put, hN]); omega)) (by (first | rw [hN] | simp only [size_put, hN]); omega)]
      rfl)]
    unfold Oper.wp
    have e1 : ∀ A : Act, aget A (t1 + 3) = .int .i32 n → (execOp A.eval ⟨some (t1 + 4), .binOp .eql T' (.tmp (t1 + 3)) (.const (.int .i32 0)) U', ty5, p5, e5, some (2, false)⟩).run P w = .ok (.value (.bool (decide (n = 0)))) w := by
      intro A hA
      have e2 : A.eval (.tmp (t1 + 3)) = .int .i32 n := hA
      have e3 : A.eval (.const (.int .i32 0)) = .int .i32 0 := rfl
      simp [execOp, e2, e3, eqGuard_at_int, binOp, Op.intCmp]
      try rfl
    rw [e1 _ (aget_put_same _ _ _ (by (first | rw [hN] | simp only [size_put, hN]); omega))]
    refine hK2 _ _ ?_
    refine wl_value (v := .bool (decide (x < m) || decide (n = 0))) (w' := w) rfl ?_ ?_
    · have e2 : ∀ A : Act, aget A (t1 + 2) = .bool false → aget A (t1 + 4) = .bool (decide (n = 0)) → (execOp A.eval ⟨some (t1 + 5), .pick (.tmp (t1 + 2)) (.const (.bool true)) (.tmp (t1 + 4)), ty6, p6, e6, none⟩).run P w = .ok (.value (.bool (decide (x < m) || decide (n = 0)))) w := by
        intro A hA hB
        simp [execOp, aget_eval, hA, hB, asBool, hn]
      refine e2 _ ?_ (aget_put_same _ _ _ (by (first | rw [hN] | simp only [size_put, hN]); omega))
      rw [aget_put_other _ _ _ _ (by omega), aget_put_other _ _ _ _ (by omega)]
      exact aget_put_same _ _ _ (by (first | rw [hN] | simp only [size_put, hN]); omega)
    · exact wpList_nil (h _ (((((((Fr.refl N lo t x0 a).put _ _ (by omega)).put _ _ (by omega)).put _ _ (by omega)).put _ _ (by omega)).put _ _ (by omega)).put _ _ (by omega)) (aget_put_same _ _ _ (by (first | rw [hN] | simp only [size_put, hN]); omega)))
/-- 'if version < n || l == 0 { a = []T{} }'. -/
theorem rdF_listN {s bp rs u l v sv t1 t2 t3 t4 T' k U off r1 r2 r3 r4 r5 y1 y2 y3 y4 y5 y6 y7 y8 y9 y10 y11 y12 y13 y14 y15 y16 J1 J2 J3 J4 Ts e esz : Nat} {q1 q2 q3 q4 q5 q6 q7 q8 q9 q10 q11 q12 q13 q14 q15 q16 : String} {g1 g2 g3 g4 g5 g6 g7 g8 g9 g10 g11 g12 g13 g14 g15 g16 : Array Edge} {cl ct : Code} {sch : Sch} {m : Int}
    (hk : KOK N lo t ((s, .int .i64 0) :: (bp, .int .i64 0) :: K)) (hT : FieldAt P T' k off) (hU : OneCell P U) (hD : Dims N nt lo t) (hd : t ≤ t1 ∧ t1 + 3 < nt ∧ lo ≤ v ∧ v < N ∧ t ≤ t2 ∧ t2 < nt ∧ lo ≤ u ∧ u < N ∧ lo ≤ l ∧ l < N ∧ u ≠ l) (hd2 : t ≤ t3 ∧ t3 + 5 < nt ∧ t ≤ t4 ∧ t4 < nt)
    (hTs : P.underlying Ts = some (.slice e)) (hsv : (sv, Value.int .i16 ver) ∈ K) (hl : RdLn P N nt gE E flex K lo t bp cl l) (ht : RdTail RT P N nt gE E ver flex K lo t s bp rs u l ct off (some m) esz sch) (hsz : ∃ i, P.info? e = some i ∧ i.size = esz) :
    RdF RT P N nt gE E ver flex K lo t s bp rs ((Code.region r1 #[⟨some t1, .move (.tmp s), y1, q1, g1, none⟩, ⟨some (t1 + 1), .nilCheck (.tmp t1), y2, q2, g2, none⟩, ⟨some (t1 + 2), .fieldAddr T' (.tmp (t1 + 1)) k, y3, q3, g3, none⟩,
      ⟨some (t1 + 3), .load U (.tmp (t1 + 2)), y4, q4, g4, none⟩, ⟨some v, .assign (.tmp (t1 + 3)), y5, q5, g5, none⟩] false).seq
      ((Code.region r2 #[⟨some t2, .move (.tmp v), y6, q6, g6, none⟩, ⟨some u, .assign (.tmp t2), y7, q7, g7, none⟩] false).seq
      ((Code.region r3 #[⟨some l, .assign (.const (.int .i32 0)), y8, q8, g8, none⟩] false).seq (cl.seq
      (((Code.region r4 #[⟨some t3, .move (.tmp sv), y9, q9, g9, none⟩, ⟨some (t3 + 1), .binOp .lss J1 (.tmp t3) (.const (.int .i16 m)) J2, y10, q10, g10, none⟩, ⟨some (t3 + 2), .move (.tmp (t3 + 1)), y11, q11, g11, none⟩,
        ⟨some (t3 + 3), .move (.tmp l), y12, q12, g12, some (2, false)⟩, ⟨some (t3 + 4), .binOp .eql J3 (.tmp (t3 + 3)) (.const (.int .i32 0)) J4, y13, q13, g13, some (2, false)⟩, ⟨some (t3 + 5), .pick (.tmp (t3 + 2)) (.const (.bool true)) (.tmp (t3 + 4)), y14, q14, g14, none⟩] false).seq
        (.cond (.tmp (t3 + 5)) (Code.region r5 #[⟨some t4, .buildSlice Ts 0 #[], y15, q15, g15, none⟩, ⟨some u, .assign (.tmp t4), y16, q16, g16, none⟩] false) .skip)).seq ct))))) off (.list (some m) esz sch) := by
  refine rdF_list0 hk hT hU hD hd fun O rb b o Tb a w cs st Q hN hh hst hlt hu hq hr => ?_
  obtain ⟨d1, d2, d3, d4, d5, d6, d7, d8, d9, d10, d11⟩ := hd
  obtain ⟨c1, c2, c3, c4⟩ := hd2
  have x1 := hD.dOne; have x2 := hD.dLo; have x3 := hD.dT; have x4 := hD.dN
  have hsvk := hk _ (List.mem_cons_of_mem _ (List.mem_cons_of_mem _ hsv))
  simp only at hsvk
  refine wp_seq (hl O rb b Tb a w cs st _ hN hh.tail hst fun a1 w1 n hl1 hst1 hf1 hs1 hk1 hn1 => ?_)
  have hN1 := hf1.size.trans hN
  have hh1 := hh.frR (kokR hk) hD hf1
  have hu1 : aget a1 u = .slice none 0 0 := (hs1 u d11 d8).trans hu
  refine wp_seq (wp_seq (reg_nul (x0 := nt) (lo := N) hN1 (hh1 _ (List.mem_cons_of_mem _ (List.mem_cons_of_mem _ hsv))) hl1 ⟨x3, c1, c2, Nat.le_refl _, by omega, by omega, by omega, by omega, by omega, by omega⟩ fun a2 hf2 hx2 => ?_))
  have hN2 := hf2.size.trans hN1
  have hf02 : Fr N lo t nt a a2 := hf1.trans (hf2.mono x2 (Nat.le_refl _))
  have hh2 := hh.frR (kokR hk) hD hf02
  have hs2 : ∀ q, q < N → aget a2 q = aget a1 q := fun q hq => hf2.same q (by omega) (.inl hq)
  by_cases hc : ver < m ∨ n = 0
  · refine wp_cond_true (hx2.trans (by simpa using hc)) (wp_reg ?_)
    obtain ⟨ie, hie, hies⟩ := hsz
    refine wl_value (v := .slice (some ⟨w1.heap.size, 0, none⟩) 0 0) (w' := w1.alloc (.cells #[] e)) rfl (run_build0 hTs hie w1 a2) ?_
    refine wl_assign (aget_put_same _ _ _ (by omega)) ?_
    refine wpList_nil ?_
    have hf3 : Fr N lo t nt a2 ((a2.put (some t4) (.slice (some ⟨w1.heap.size, 0, none⟩) 0 0)).put (some u) (.slice (some ⟨w1.heap.size, 0, none⟩) 0 0)) := ((Fr.refl N lo t nt a2).put _ _ (by omega)).put _ _ (by omega)
    have hu3 : aget ((a2.put (some t4) (.slice (some ⟨w1.heap.size, 0, none⟩) 0 0)).put (some u) (.slice (some ⟨w1.heap.size, 0, none⟩) 0 0)) u = .slice (some ⟨w1.heap.size, 0, none⟩) 0 0 := aget_put_same _ _ _ (by simp only [size_put]; omega)
    have hl3 : aget ((a2.put (some t4) (.slice (some ⟨w1.heap.size, 0, none⟩) 0 0)).put (some u) (.slice (some ⟨w1.heap.size, 0, none⟩) 0 0)) l = .int .i32 n := by rw [aget_put_other _ _ _ l (by omega), aget_put_other _ _ _ l (by omega), hs2 l (by omega)]; exact hl1
    generalize ((a2.put (some t4) (.slice (some ⟨w1.heap.size, 0, none⟩) 0 0)).put (some u) (.slice (some ⟨w1.heap.size, 0, none⟩) 0 0)) = a3 at *
    have hk2 : Keeps [] w1 (w1.alloc (.cells #[] e)) := (Keeps.refl [] w1).alloc _
    have hst2 := hst1.upd (hst1.blk.keeps hk2 (by simp)) (hk2.mono (by simp))
    have hf03 := hf02.trans hf3
    have hkk : Keeps [rb, b] w (w1.alloc (.cells #[] e)) := (keeps_rb hk1).trans (hk2.mono (by simp))
    exact ht O rb b o Tb a3 _ cs st Q _ n (hf03.size.trans hN) (hh.frR (kokR hk) hD hf03) hst2 hlt hu3 hl3 hn1 (fun _ hn => by
        simp only [Option.isSome_some, true_iff, nullAt, decide_eq_true_eq]
        omega)
      (fun a' w' cs' k1 k2 k3 => hq a' w' cs' k1 (hf03.trans k2) (hkk.trans k3)) (fun a' w' k1 k2 k3 k4 k5 => hr a' w' k1 k2 (k3.trans hf03.defers) k4 (hkk.trans k5))
  · refine wp_cond_false (hx2.trans (by simpa using hc)) (wp_skip ?_)
    exact ht O rb b o Tb a2 w1 cs st Q none n hN2 hh2 hst1 hlt ((hs2 u (by omega)).trans hu1) ((hs2 l (by omega)).trans hl1) hn1 (fun _ hn => by
        simp only [Option.isSome_none, Bool.false_eq_true, false_iff, nullAt, decide_eq_true_eq]
        omega)
      (fun a' w' cs' k1 k2 k3 => hq a' w' cs' k1 (hf02.trans k2) ((keeps_rb hk1).trans k3)) (fun a' w' k1 k2 k3 k4 k5 => hr a' w' k1 k2 (k3.trans hf02.defers) k4 ((keeps_rb hk1).trans k5))
/-- What is asked of a Default. -/
def DefC (P : Program) (F : Nat) (e : Sch) : Prop := ∀ (w : World) (b o T : Nat) (cs : List Value), Blk w b cs T → Fresh cs o e → Calls P F #[.pointer (some ⟨b, o, none⟩)] w fun en w' => ∃ cs', en = .returned (.tuple #[]) ∧ Blk w' b cs' T ∧ SameOut cs cs' o (o + top e) ∧ Keeps [b] w w' ∧ Fresh cs' o e
/-- 'v := &a[i]; v.Default(); s := v; ..'. -/
theorem rdEl_part {u i bp rs v s t1 t2 t3 FD T e r1 r2 r3 y1 y2 y3 y4 y5 y6 y7 y8 esz lo' t' : Nat} {q1 q2 q3 q4 q5 q6 q7 q8 : String} {g1 g2 g3 g4 g5 g6 g7 g8 : Array Edge} {at_ : Array TypeId} {c : Code} {sch : Sch}
    (hk : KOK N lo t ((bp, .int .i64 0) :: K)) (hT : P.underlying T = some (.slice e)) (hE : ∃ i, P.info? e = some i ∧ i.size = esz) (he : Enters P FD) (hDef : DefC P FD sch) (hD : Dims N nt lo t) (hD' : Dims N nt lo' t')
    (hd : t ≤ t1 ∧ t1 + 2 < nt ∧ t ≤ t2 ∧ t2 + 1 < nt ∧ t ≤ t3 ∧ t3 < nt ∧ lo ≤ v ∧ v < N ∧ lo ≤ s ∧ s < N ∧ lo ≤ lo' ∧ t ≤ t' ∧ i < N ∧ v ≠ s) (hd2 : KOK N lo t' ((bp, .int .i64 0) :: K) ∧ True) (htop : top sch ≤ esz) (h : RdS RT P N nt gE E ver flex K lo' t' s bp rs c 0 sch) :
    RdEl RT P N nt gE E ver flex K lo t u i bp rs ((Code.region r1 #[⟨some t1, .move (.tmp u), y1, q1, g1, none⟩, ⟨some (t1 + 1), .move (.tmp i), y2, q2, g2, none⟩, ⟨some (t1 + 2), .indexAddr T (.tmp t1) (.tmp (t1 + 1)), y3, q3, g3, none⟩, ⟨some v, .assign (.tmp (t1 + 2)), y4, q4, g4, none⟩] false).seq
      ((Code.region r2 #[⟨some t2, .move (.tmp v), y5, q5, g5, none⟩, ⟨some (t2 + 1), .call { callee := .value (.func FD), args := #[.tmp t2], argTypes := at_ }, y6, q6, g6, none⟩] false).seq
      ((Code.region r3 #[⟨some t3, .move (.tmp v), y7, q7, g7, none⟩, ⟨some s, .assign (.tmp t3), y8, q8, g8, none⟩] false).seq c))) esz sch := by
  intro O rb p Tp n cap k a w cs st Q hN hh hkn hst hF hq hr
  obtain ⟨d1, d2, d3, d4, d5, d6, d7, d8, d9, d10, d11, d12, d13, d14⟩ := hd
  have x1 := hD.dOne; have x2 := hD.dLo; have x3 := hD.dT; have x4 := hD.dN
  have hk' : ∀ x, KOK N lo t ((bp, x) :: K) := fun x q hq => by
    simp only [List.mem_cons] at hq
    rcases hq with rfl | hq
    · exact hk (bp, .int .i64 0) (by simp)
    · exact hk q (by simp [hq])
  refine wp_seq (wp_reg ?_)
  refine wl_move hh.tail.head ?_
  refine wl_move (v := .int .i32 (k : Nat)) (by rw [aget_put_other _ _ _ _ (by omega)]; exact hh.head) ?_
  refine wl_index32 (k := k) hT hE hkn (by rw [aget_put_other _ _ _ _ (by omega)]; exact aget_put_same _ _ _ (by omega)) (aget_put_same _ _ _ (by simp only [size_put]; omega)) ?_
  rw [Addr.add_lit, Nat.zero_add]
  refine wl_assign (aget_put_same _ _ _ (by simp only [size_put]; omega)) ?_
  refine wpList_nil ?_
  have hf1 : Fr N lo t nt a ((((a.put (some t1) (.slice (some ⟨p, 0, none⟩) n cap)).put (some (t1 + 1)) (.int .i32 (k : Nat))).put (some (t1 + 2)) (.pointer (some ⟨p, k * esz, none⟩))).put (some v) (.pointer (some ⟨p, k * esz, none⟩))) := ((((Fr.refl N lo t nt a).put _ _ (by omega)).put _ _ (by omega)).put _ _ (by omega)).put _ _ (by omega)
  have hv1 : aget ((((a.put (some t1) (.slice (some ⟨p, 0, none⟩) n cap)).put (some (t1 + 1)) (.int .i32 (k : Nat))).put (some (t1 + 2)) (.pointer (some ⟨p, k * esz, none⟩))).put (some v) (.pointer (some ⟨p, k * esz, none⟩))) v = .pointer (some ⟨p, k * esz, none⟩) := aget_put_same _ _ _ (by simp only [size_put]; omega)
  generalize ((((a.put (some t1) (.slice (some ⟨p, 0, none⟩) n cap)).put (some (t1 + 1)) (.int .i32 (k : Nat))).put (some (t1 + 2)) (.pointer (some ⟨p, k * esz, none⟩))).put (some v) (.pointer (some ⟨p, k * esz, none⟩))) = a1 at *
  have hN1 := hf1.size.trans hN
  simp only [Exit.then]
  refine wp_seq (wp_reg ?_)
  refine wl_move hv1 ?_
  refine wl_call (R := fun en w' => ∃ cs', en = .returned (.tuple #[]) ∧ Blk w' p cs' Tp ∧ SameOut cs cs' (k * esz) (k * esz + top sch) ∧ Keeps [p] w w' ∧ Fresh cs' (k * esz) sch) he ?_ ?_
  · simp only [List.map_toArray, List.map_cons, List.map_nil, aget_eval]
    rw [aget_put_same _ _ _ (by omega)]
    exact hDef w p (k * esz) Tp cs hst.blk hF
  rintro en w2 ⟨cs2, rfl, hb2, hs2, hk2, hF2⟩
  refine ⟨_, rfl, wpList_nil ?_⟩
  have hst2 := hst.upd hb2 hk2
  have hf2 : Fr N lo t nt a1 ((a1.put (some t2) (.pointer (some ⟨p, k * esz, none⟩))).put (some (t2 + 1)) (.tuple #[])) := ((Fr.refl N lo t nt a1).put _ _ (by omega)).put _ _ (by omega)
  have hv2 : aget ((a1.put (some t2) (.pointer (some ⟨p, k * esz, none⟩))).put (some (t2 + 1)) (.tuple #[])) v = .pointer (some ⟨p, k * esz, none⟩) := by rw [aget_put_other _ _ _ v (by omega), aget_put_other _ _ _ v (by omega)]; exact hv1
  generalize ((a1.put (some t2) (.pointer (some ⟨p, k * esz, none⟩))).put (some (t2 + 1)) (.tuple #[])) = a2 at *
  have hN2 := hf2.size.trans hN1
  simp only [Exit.then]
  refine wp_seq (wp_reg ?_)
  refine wl_move hv2 ?_
  refine wl_assign (aget_put_same _ _ _ (by omega)) ?_
  refine wpList_nil ?_
  have hf3 : Fr N lo t nt a2 ((a2.put (some t3) (.pointer (some ⟨p, k * esz, none⟩))).put (some s) (.pointer (some ⟨p, k * esz, none⟩))) := ((Fr.refl N lo t nt a2).put _ _ (by omega)).put _ _ (by omega)
  have hs3 : aget ((a2.put (some t3) (.pointer (some ⟨p, k * esz, none⟩))).put (some s) (.pointer (some ⟨p, k * esz, none⟩))) s = .pointer (some ⟨p, k * esz, none⟩) := aget_put_same _ _ _ (by simp only [size_put]; omega)
  generalize ((a2.put (some t3) (.pointer (some ⟨p, k * esz, none⟩))).put (some s) (.pointer (some ⟨p, k * esz, none⟩))) = a3 at *
  have hf03 := (hf1.trans hf2).trans hf3
  have hh3 : Holds ((bp, .pointer (some ⟨rb, 0, none⟩)) :: K) a3 := hh.tail.tail.frR (hk' _) hD hf03
  simp only [Exit.then]
  have hkk : Keeps [rb, p] w w2 := hk2.mono (by simp)
  refine h O rb p (k * esz) Tp a3 w2 cs2 st Q (hf03.size.trans hN) (hh3.cons hs3) hst2 hF2 (fun a4 w4 cs4 k1 k2 k3 k4 k5 => ?_) (fun a4 w4 k1 k2 k3 k4 k5 => hr a4 w4 k1 k2 (k3.trans hf03.defers) k4 (hkk.trans k5))
  refine hq a4 w4 cs4 k1 (hf03.trans (k2.mono d11 d12)) (hkk.trans k3) (hs2.trans k4 (by omega) (by omega)) k5
theorem KOKmono {lo' t' : Nat} (h : KOK N lo t K) (h1 : lo ≤ lo') (h2 : t ≤ t') : KOK N lo' t' K := fun p hp => by have := h p hp; omega
/-- A value of a list: '..; a[i] = v'. -/
theorem rdEl_leaf {u i bp rs v t1 T e U r1 y1 y2 y3 y4 y5 : Nat} {q1 q2 q3 q4 q5 : String} {g1 g2 g3 g4 g5 : Array Edge} {c : Code} {lf : Leaf}
    (hk : KOK N lo t ((bp, .int .i64 0) :: K)) (hT : P.underlying T = some (.slice e)) (hE : ∃ i, P.info? e = some i ∧ i.size = 1) (hU : OneCell P U) (hD : Dims N nt lo t) (hd : t ≤ t1 ∧ t1 + 3 < nt ∧ v < N ∧ i < lo ∧ u < lo) (hlf : lf ≠ .uuid) (h : RdL P N nt gE E ver flex K lo t bp c v lf) :
    RdEl RT P N nt gE E ver flex K lo t u i bp rs (c.seq (.region r1 #[⟨some t1, .move (.tmp u), y1, q1, g1, none⟩, ⟨some (t1 + 1), .move (.tmp i), y2, q2, g2, none⟩, ⟨some (t1 + 2), .move (.tmp v), y3, q3, g3, none⟩, ⟨some (t1 + 3), .indexAddr T (.tmp t1) (.tmp (t1 + 1)), y4, q4, g4, none⟩,
      ⟨none, .store U (.tmp (t1 + 3)) (.tmp (t1 + 2)), y5, q5, g5, none⟩] false)) 1 (.leaf lf) := by
  intro O rb p Tp n cap k a w cs st Q hN hh hkn hst hF hq hr
  obtain ⟨d1, d2, d3, d4, d5⟩ := hd
  have x1 := hD.dOne; have x2 := hD.dLo; have x3 := hD.dT; have x4 := hD.dN
  have hl : k * 1 < cs.length := by cases lf <;> first | exact hF | exact absurd rfl hlf
  refine wp_seq (h O rb p Tp a w cs st _ hN hh.tail.tail hst fun a1 w1 x hx hone hst1 hf1 hk1 hlv => ?_)
  have hN1 := hf1.size.trans hN
  have hu1 : aget a1 u = .slice (some ⟨p, 0, none⟩) n cap := (hf1.same u (by omega) (.inl d5)).trans hh.tail.head
  have hi1 : aget a1 i = .int .i32 (k : Nat) := (hf1.same i (by omega) (.inl d4)).trans hh.head
  refine wp_reg ?_
  refine wl_move hu1 ?_
  refine wl_move (v := .int .i32 (k : Nat)) (by rw [aget_put_other _ _ _ _ (by omega)]; exact hi1) ?_
  refine wl_move (v := x) (by rw [aget_put_other _ _ _ v (by omega), aget_put_other _ _ _ v (by omega)]; exact hx) ?_
  refine wl_index32 (k := k) hT hE hkn (by rw [aget_put_other _ _ _ t1 (by omega), aget_put_other _ _ _ t1 (by omega)]; exact aget_put_same _ _ _ (by omega)) (by rw [aget_put_other _ _ _ (t1 + 1) (by omega)]; exact aget_put_same _ _ _ (by simp only [size_put]; omega)) ?_
  rw [Addr.add_lit, Nat.zero_add]
  refine wl_store (w' := w1.setCell ⟨p, k * 1, none⟩ x) ?_ ?_
  · rw [aget_eval, aget_eval, aget_put_same _ _ _ (by simp only [size_put]; omega), aget_put_other _ _ _ (t1 + 2) (by omega), aget_put_same _ _ _ (by simp only [size_put]; omega)]
    exact run_store_blk hU hst1.blk hl hone
  · refine wpList_nil (hq _ _ _ (hst1.store (k * 1) x) (hf1.trans (((((Fr.refl N lo t nt a1).put _ _ (by omega)).put _ _ (by omega)).put _ _ (by omega)).put _ _ (by omega))) ((keeps_rb hk1).trans (keeps_b w1 _ _)) (SameOut.set cs (k * 1) x) fun gv r hv => ?_)
    have hb : Keeps O w1 (w1.setCell ⟨p, k * 1, none⟩ x) := (Keeps.refl O w1).setCell hst.bO _
    exact ((hlv gv r hv).keeps hb).rep ((hst1.blk.set (k * 1) x).cell_some (by rw [List.getElem?_set_self hl]))
theorem rdEl_var {u i bp rs v r y : Nat} {q : String} {g : Array Edge} {z : Value} {c : Code} {esz : Nat} {sch : Sch} (hk : KOK N lo t ((bp, .int .i64 0) :: K)) (hD : Dims N nt lo t) (hd : lo ≤ v ∧ v < N ∧ i < lo ∧ u < lo) (h : RdEl RT P N nt gE E ver flex K lo t u i bp rs c esz sch) :
    RdEl RT P N nt gE E ver flex K lo t u i bp rs ((Code.region r #[⟨some v, .assign (.const z), y, q, g, none⟩] false).seq c) esz sch := by
  intro O rb p Tp n cap k a w cs st Q hN hh hkn hst hF hq hr
  have x1 := hD.dOne; have x2 := hD.dLo; have x3 := hD.dT; have x4 := hD.dN
  refine wp_seq (wp_reg (wl_assign_c (wpList_nil ?_)))
  have hf : Fr N lo t nt a (a.put (some v) z) := (Fr.refl N lo t nt a).put _ _ (by omega)
  have hh' : Holds ((i, .int .i32 (k : Nat)) :: (u, .slice (some ⟨p, 0, none⟩) n cap) :: (bp, .pointer (some ⟨rb, 0, none⟩)) :: K) (a.put (some v) z) := by
    intro q hq
    have hq' := hq
    simp only [List.mem_cons] at hq'
    have hlow : q.1 ≠ nt ∧ (q.1 < lo ∨ (N ≤ q.1 ∧ q.1 < t)) := by
      rcases hq' with rfl | rfl | rfl | hq'
      · exact ⟨by simp only; omega, .inl hd.2.2.1⟩
      · exact ⟨by simp only; omega, .inl hd.2.2.2⟩
      · have := hk (bp, .int .i64 0) (by simp); exact ⟨by simp only at this ⊢; omega, this.2⟩
      · have := hk q (by simp [hq']); exact ⟨by omega, this.2⟩
    exact (hf.same q.1 hlow.1 hlow.2).trans (hh q hq)
  exact h O rb p Tp n cap k _ w cs st Q (hf.size.trans hN) hh' hkn hst hF (fun a' w' cs' k1 k2 => hq a' w' cs' k1 (hf.trans k2)) (fun a' w' k1 k2 k3 => hr a' w' k1 k2 (k3.trans hf.defers))
theorem RdEl.mono {u i bp rs lo' t' esz : Nat} {c : Code} {sch : Sch} (h : RdEl RT P N nt gE E ver flex K lo' t' u i bp rs c esz sch) (h1 : lo ≤ lo') (h2 : t ≤ t') : RdEl RT P N nt gE E ver flex K lo t u i bp rs c esz sch :=
  fun O rb p Tp n cap k a w cs st Q hN hh hkn hst hF hq hr => h O rb p Tp n cap k a w cs st Q hN hh hkn hst hF (fun a' w' cs' k1 k2 => hq a' w' cs' k1 (k2.mono h1 h2)) hr
/-- What is asked of the function that reads tags: a map, or none. -/
def TagsRd (RT : RTags) (P : Program) (F : Nat) : Prop := ∀ (O : List Nat) (rb : Nat) (w : World) (st : Option (List UInt8)), rb ∈ O → (∀ k, k ∈ O → k < w.heap.size) → Rdr O w rb st →
  Calls P F #[.pointer (some ⟨rb, 0, none⟩)] w fun e w' => ∃ m, e = .returned (.agg #[.map m]) ∧ Rdr O w' rb ((st.bind rdTagsRaw).map (·.2)) ∧ Keeps [rb] w w' ∧ ∀ l r, st.bind rdTagsRaw = some (l, r) → ∀ (w2 : World) (b o : Nat), Keeps O w' w2 → w2.cell? ⟨b, o, none⟩ = some (.map m) → RT O w2 b o (tagSort l)
theorem run_store_agg {U : Nat} (hU : ∃ i, P.info? U = some i ∧ i.size = 1) {w : World} {b i T : Nat} {c : List Value} {y : Value} (h : Blk w b c T) (hi : i < c.length) (hy : y.oneCell' = true) :
    (Instr.storeAt U (.pointer (some ⟨b, i, none⟩)) (.agg #[y])).run P w = .ok () (w.setCell ⟨b, i, none⟩ y) := by
  obtain ⟨t, ht, hs⟩ := hU
  have h1 := h.cell_some (List.getElem?_eq_getElem hi)
  have h2 := h.frozen i
  simp [Instr.storeAt, Instr.sureAddr, storeVar, sizeOf, typeInfo, ht, hs, Value.cells, storeCells, Addr.add]
  rw [run_store _ _ _ _ _ hy, h1]
  simp [h2]
theorem rdS_tags {s bp rs sf t0 t1 F T' k U off n r0 r1 y1 y2 y3 y4 y5 y6 : Nat} {q1 q2 q3 q4 q5 q6 : String} {g1 g2 g3 g4 g5 g6 : Array Edge} {at_ : Array TypeId}
    (hk : KOK N lo t ((s, .int .i64 0) :: (bp, .int .i64 0) :: K)) (hf : (sf, Value.bool flex) ∈ K) (hFA : FieldAt P T' k off) (hU : ∃ i, P.info? U = some i ∧ i.size = 1) (he : Enters P F) (hR0 : ∀ O w b o, w.cell? ⟨b, o, none⟩ = some (.map none) → RT O w b o []) (hTg : TagsRd RT P F) (hD : Dims N nt lo t) (hd : t ≤ t0 ∧ t0 < nt ∧ t ≤ t1 ∧ t1 + 3 < nt ∧ bp < lo ∧ n ≤ off) :
    RdS RT P N nt gE E ver flex K lo t s bp rs ((Code.region r0 #[⟨some t0, .move (.tmp sf), y1, q1, g1, none⟩] false).seq (.cond (.tmp t0)
      (Code.region r1 #[⟨some t1, .move (.tmp s), y2, q2, g2, none⟩, ⟨some (t1 + 1), .call { callee := .value (.func F), args := #[.tmp bp], argTypes := at_ }, y3, q3, g3, none⟩, ⟨some (t1 + 2), .nilCheck (.tmp t1), y4, q4, g4, none⟩, ⟨some (t1 + 3), .fieldAddr T' (.tmp (t1 + 2)) k, y5, q5, g5, none⟩,
        ⟨none, .store U (.tmp (t1 + 3)) (.tmp (t1 + 1)), y6, q6, g6, none⟩] false) .skip)) n (.tags off) := by
  intro O rb b o T a w cs st Q hN hh hst hF hq hr
  obtain ⟨d1, d2, d3, d4, d5, d6⟩ := hd
  have x1 := hD.dOne; have x2 := hD.dLo; have x3 := hD.dT; have x4 := hD.dN
  have hc : cs[o + off]? = some (.map none) := hF
  have hlt : o + off < cs.length := (List.getElem?_eq_some_iff.1 hc).1
  refine wp_seq (reg_flag (x0 := nt) (lo := lo) hN (hh _ (List.mem_cons_of_mem _ (List.mem_cons_of_mem _ hf))) ⟨hD.dT, d1, d2, hD.dLo⟩ fun a1 hf1 hx => ?_)
  have hh1 := hh.frR (kokR hk) hD hf1
  have hN1 := hf1.size.trans hN
  cases flex
  · refine wp_cond_false hx (wp_skip (hq a1 w cs ?_ hf1 (Keeps.refl _ _) (SameOut.refl _ _ _) fun v r hv => ?_))
    · cases st <;> exact hst
    · cases st with
      | none => cases hv
      | some bs =>
        simp only [Option.bind_some, rd, rdTags, Bool.false_eq_true, if_false, Pr.pure, Option.some.injEq, Prod.mk.injEq] at hv
        obtain ⟨rfl, rfl⟩ := hv
        exact hR0 _ _ _ _ (hst.blk.cell_some hc)
  · refine wp_cond_true hx (wp_reg ?_)
    refine wl_move hh1.head ?_
    refine wl_call (R := fun e w' => ∃ m, e = .returned (.agg #[.map m]) ∧ Rdr O w' rb ((st.bind rdTagsRaw).map (·.2)) ∧ Keeps [rb] w w' ∧ ∀ l r, st.bind rdTagsRaw = some (l, r) → ∀ (w2 : World) (b o : Nat), Keeps O w' w2 → w2.cell? ⟨b, o, none⟩ = some (.map m) → RT O w2 b o (tagSort l)) he ?_ ?_
    · simp only [List.map_toArray, List.map_cons, List.map_nil, aget_eval]
      rw [aget_put_other _ _ _ bp (by omega), hh1.tail.head]
      exact hTg O rb w st hst.rbO hst.lt hst.rdr
    rintro en w2 ⟨m, rfl, hr2, hk2, hm⟩
    refine ⟨_, rfl, ?_⟩
    refine wl_nilCheck (ad := ⟨b, o, none⟩) (by rw [aget_put_other _ _ _ t1 (by omega)]; exact aget_put_same _ _ _ (by omega)) ?_
    refine wl_fieldAddr hFA (aget_put_same _ _ _ (by simp only [size_put]; omega)) ?_
    rw [Addr.add_lit]
    have hst2 := hst.call hr2 hk2
    have e0 : st.bind (rd ver true (.tags off)) = (st.bind rdTagsRaw).bind fun q => some (.tags (tagSort q.1), q.2) := by
      change st.bind (rdTags true) = _
      unfold rdTags
      simp only [if_true]
      exact bind_st st rdTagsRaw _
    refine wl_store (w' := w2.setCell ⟨b, o + off, none⟩ (.map m)) ?_ ?_
    · rw [aget_eval, aget_eval, aget_put_same _ _ _ (by simp only [size_put]; omega), aget_put_other _ _ _ (t1 + 1) (by omega), aget_put_other _ _ _ (t1 + 1) (by omega), aget_put_same _ _ _ (by simp only [size_put]; omega)]
      exact run_store_agg hU hst2.blk hlt rfl
    · have hkO : Keeps O w2 (w2.setCell ⟨b, o + off, none⟩ (.map m)) := (Keeps.refl O w2).setCell hst.bO _
      refine wpList_nil (hq _ (w2.setCell ⟨b, o + off, none⟩ (.map m)) (cs.set (o + off) (.map m)) ?_ (hf1.trans (((((Fr.refl N lo t nt a1).put _ _ (by omega)).put _ _ (by omega)).put _ _ (by omega)).put _ _ (by omega))) ((keeps_rb hk2).trans (keeps_b w2 _ _)) ((SameOut.set cs (o + off) (.map m)).mono (by omega) (by simp only [top]; omega)) fun v r hv => ?_)
      · rw [e0]
        have := hst2.store (o + off) (.map m)
        cases hx2 : st.bind rdTagsRaw with
        | none => rw [hx2] at this; exact this
        | some q => rw [hx2] at this; exact this
      · rw [e0] at hv
        cases hx2 : st.bind rdTagsRaw with
        | none => rw [hx2] at hv; cases hv
        | some q =>
          rw [hx2] at hv
          simp only [Option.bind_some, Option.some.injEq, Prod.mk.injEq] at hv
          obtain ⟨rfl, rfl⟩ := hv
          exact hm q.1 q.2 hx2 _ _ _ hkO ((hst2.blk.set (o + off) (.map m)).cell_some (by rw [List.getElem?_set_self hlt]))
end
end Go.Proofs.YtellhjpdpaeieaaDoor
