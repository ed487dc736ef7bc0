/- The code that reads a list: the loop. -/
import Derived.Test.YtellhjpdpaeieaaDoorRg
namespace Go.Proofs.YtellhjpdpaeieaaDoor
open Go Go.RowKit
set_option linter.unusedVariables false

section
variable {RT : RTags} {P : Program} {N nt gE : Nat} {E : Value} {K : Slots} {lo t : Nat} {ver : Int} {flex : Bool}
theorem wl_index32 {w : World} {ops : Array Oper} {rest : List Oper} {a : Act} {Q : Exit → Act → World → Prop} {d : Nat} {ty : TypeId} {pos : String} {af : Array Edge} {t e s s' esz : Nat} (ht : P.underlying t = some (.slice e)) (he : ∃ i, P.info? e = some i ∧ i.size = esz) {ad : Addr} {n c : Nat} {k : Nat} (hk : k < n) (hs : aget a s = .slice (some ad) n c) (hs' : aget a s' = .int .i32 k)
    (h : wpList P ops Q rest (a.put (some d) (.pointer (some (ad.add (k * esz))))) w) : wpList P ops Q (⟨some d, .indexAddr t (.tmp s) (.tmp s'), ty, pos, af, none⟩ :: rest) a w := by
  obtain ⟨i, hi, rfl⟩ := he
  refine wl_value (v := .pointer (some (ad.add (k * i.size)))) (w' := w) rfl ?_ h
  have h1 : (0 : Int) ≤ k ∧ (k : Int) < n := by omega
  simp [execOp, aget_eval, hs, hs', Instr.indexAt, asIntOf, run_underlying ht, sizeOf, typeInfo, hi, h1]
  exact fun hx => absurd hx (by omega)

/-- One thing of a list that lies in block p: slot u holds the list, slot i its place. -/
def RdEl (RT : RTags) (P : Program) (N nt gE : Nat) (E : Value) (ver : Int) (flex : Bool) (K : Slots) (lo t u i bp rs : Nat) (c : Code) (esz : Nat) (e : Sch) : Prop :=
  ∀ (O : List Nat) (rb p T n cap k : Nat) (a : Act) (w : World) (cs : List Value) (st : Option (List UInt8)) (Q : Exit → Act → World → Prop),
    a.tmps.size = nt → Holds ((i, .int .i32 (k : Nat)) :: (u, .slice (some ⟨p, 0, none⟩) n cap) :: (bp, .pointer (some ⟨rb, 0, none⟩)) :: K) a → k < n → RSt gE E O w rb p cs T st → Fresh cs (k * esz) e →
    (∀ a' w' cs', RSt gE E O w' rb p cs' T ((st.bind (rd ver flex e)).map (·.2)) → Fr N lo t nt a a' → Keeps [rb, p] w w' → SameOut cs cs' (k * esz) (k * esz + esz) → (∀ v r, st.bind (rd ver flex e) = some (v, r) → Rep RT O w' ver flex e p (k * esz) v) → Q .normal a' w') →
    (∀ a' w', st.bind (rd ver flex e) = none → a'.tmps.size = nt → a'.defers = a.defers → aget a' rs = E → Keeps [rb, p] w w' → Q .ret a' w') → c.wp P Q a w

/-- What the loop knows behind k rounds. -/
structure LpInv (RT : RTags) (nt gE : Nat) (E : Value) (ver : Int) (flex : Bool) (N lo t u i l : Nat) (O : List Nat) (rb p T n cap esz : Nat) (e : Sch) (st : Option (List UInt8)) (a1 : Act) (w1 : World) (cs1 : List Value) (k : Nat) (cs : List Value) (a : Act) (w : World) : Prop where
  le : k ≤ n
  fr : Fr N lo t nt a1 a
  si : aget a i = .int .i32 (k : Nat)
  sl : aget a l = .int .i32 (n : Nat)
  su : aget a u = .slice (some ⟨p, 0, none⟩) n cap
  rst : RSt gE E O w rb p cs T ((st.bind (rdMany (rd ver flex e) k)).map (·.2))
  fresh : ∀ j, k ≤ j → j < n → Fresh cs (j * esz) e
  keeps : Keeps [rb, p] w1 w
  done : ∀ vs r, st.bind (rdMany (rd ver flex e) k) = some (vs, r) → vs.length = k ∧ ∀ j v, vs[j]? = some v → Rep RT O w ver flex e p (j * esz) v

theorem rd_for {u i l bp rs t2 t4 B B' r1 r2 r4 T2 U2 T3 U3 ty1 ty2 ty3 ty4 ty5 ty6 ty7 lo' t' esz : Nat} {p1 p2 p3 p4 p5 p6 p7 : String} {e1 e2 e3 e4 e5 e6 e7 : Array Edge} {c : Code} {e : Sch}
    (hRT : RTKeep RT) (hk : KOK N lo t ((bp, .int .i64 0) :: K)) (hD : Dims N nt lo t) (hD' : Dims N nt lo' t') (hd : t ≤ t2 ∧ t2 + 2 < nt ∧ t ≤ t4 ∧ t4 + 1 < nt ∧ lo ≤ u ∧ u < N ∧ lo ≤ l ∧ l < N ∧ lo ≤ i ∧ i < N ∧ u < lo' ∧ l < lo' ∧ i < lo' ∧ lo ≤ lo' ∧ t ≤ t' ∧ u ≠ i ∧ l ≠ i ∧ u ≠ l) (hB : B ≠ B') (htop : top e ≤ esz) (hesz : 0 < esz)
    (h : RdEl RT P N nt gE E ver flex K lo' t' u i bp rs c esz e) (O : List Nat) (rb p T n cap : Nat) (a : Act) (w : World) (cs : List Value) (st : Option (List UInt8)) (Q : Exit → Act → World → Prop)
    (hN : a.tmps.size = nt) (hh : Holds ((bp, .pointer (some ⟨rb, 0, none⟩)) :: K) a) (hn : n ≤ 2147483646) (hst : RSt gE E O w rb p cs T st) (hl : aget a l = .int .i32 (n : Nat)) (hu : aget a u = .slice (some ⟨p, 0, none⟩) n cap) (hF : ∀ j, j < n → Fresh cs (j * esz) e)
    (hq : ∀ a' w' cs', RSt gE E O w' rb p cs' T ((st.bind (rdMany (rd ver flex e) n)).map (·.2)) → Fr N lo t nt a a' → aget a' u = .slice (some ⟨p, 0, none⟩) n cap → Keeps [rb, p] w w' → (∀ vs r, st.bind (rdMany (rd ver flex e) n) = some (vs, r) → vs.length = n ∧ ∀ j v, vs[j]? = some v → Rep RT O w' ver flex e p (j * esz) v) → Q .normal a' w')
    (hr : ∀ a' w', st.bind (rdMany (rd ver flex e) n) = none → a'.tmps.size = nt → a'.defers = a.defers → aget a' rs = E → Keeps [rb, p] w w' → Q .ret a' w') :
    ((Code.region r1 #[⟨some i, .assign (.const (.int .i32 0)), ty1, p1, e1, none⟩] false).seq (.block B (.loop
      (((Code.region r2 #[⟨some t2, .move (.tmp i), ty2, p2, e2, none⟩, ⟨some (t2 + 1), .move (.tmp l), ty3, p3, e3, none⟩, ⟨some (t2 + 2), .binOp .lss T2 (.tmp t2) (.tmp (t2 + 1)) U2, ty4, p4, e4, none⟩] false).seq (.cond (.tmp (t2 + 2)) .skip (.exit B))).seq
        ((Code.block B' c).seq (.region r4 #[⟨some t4, .move (.tmp i), ty5, p5, e5, none⟩, ⟨some (t4 + 1), .binOp .add T3 (.tmp t4) (.const (.int .i32 1)) U3, ty6, p6, e6, none⟩, ⟨some i, .assign (.tmp (t4 + 1)), ty7, p7, e7, none⟩] false)))))).wp P Q a w := by
  obtain ⟨d1, d2, d3, d4, d5, d6, d7, d8, d9, d10, d11, d12, d13, d14, d15, d16, d17, d18⟩ := hd
  have g1 := hD.dOne; have g2 := hD.dLo; have g3 := hD.dT; have g4 := hD.dN
  have hk' : KOK N lo t ((bp, .pointer (some ⟨rb, 0, none⟩)) :: K) := fun q hq => by
    simp only [List.mem_cons] at hq
    rcases hq with rfl | hq
    · exact hk (bp, .int .i64 0) (by simp)
    · exact hk q (by simp [hq])
  refine wp_seq (wp_reg (wl_assign_c (wpList_nil ?_)))
  generalize ha1 : Act.put a (some i) (.int .i32 0) = a1
  have hf1 : Fr N lo t nt a a1 := by rw [← ha1]; exact (Fr.refl N lo t nt a).put _ _ (by omega)
  have hN1 : a1.tmps.size = nt := hf1.size.trans hN
  have inv0 : LpInv RT nt gE E ver flex N lo t u i l O rb p T n cap esz e st a1 w cs 0 cs a1 w := by
    refine ⟨Nat.zero_le _, Fr.refl .., ?_, ?_, ?_, ?_, fun j _ hj => hF j hj, Keeps.refl _ _, ?_⟩
    · rw [← ha1]; exact aget_put_same _ _ _ (by omega)
    · rw [← ha1, aget_put_other _ _ _ _ (by omega)]; exact hl
    · rw [← ha1, aget_put_other _ _ _ _ (by omega)]; exact hu
    · cases st <;> exact hst
    · intro vs r hv
      cases st with
      | none => cases hv
      | some bs =>
        simp only [Option.bind_some, rdMany, Pr.pure, Option.some.injEq, Prod.mk.injEq] at hv
        obtain ⟨rfl, rfl⟩ := hv
        exact ⟨rfl, fun j v hj => by simp at hj⟩
  clear ha1
  refine wp_block ?_
  refine wp_loop (fun a' w' => ∃ k cs', LpInv RT nt gE E ver flex N lo t u i l O rb p T n cap esz e st a1 w cs k cs' a' w') (fun a' _ => n - (intOf (aget a' i)).toNat) ⟨0, cs, inv0⟩ ?_
  rintro a2 w2 ⟨k, cs2, I⟩
  have hN2 : a2.tmps.size = nt := I.fr.size.trans hN1
  have hh2 : Holds ((bp, .pointer (some ⟨rb, 0, none⟩)) :: K) a2 := (hh.frR hk' hD hf1).frR hk' hD I.fr
  refine wp_seq (wp_seq (wp_reg ?_))
  refine wl_move I.si ?_
  refine wl_move (v := .int .i32 (n : Nat)) (by rw [aget_put_other _ _ _ _ (by omega)]; exact I.sl) ?_
  refine wl_bin2 (r := .bool (decide ((k : Int) < n))) (x := .int .i32 (k : Nat)) (y := .int .i32 (n : Nat)) (by rw [aget_put_other _ _ _ _ (by omega)]; exact aget_put_same _ _ _ (by omega)) (aget_put_same _ _ _ (by simp only [size_put]; omega)) (eqGuard_at_int ..) (by simp [binOp, Op.intCmp]) ?_
  refine wpList_nil ?_
  generalize ha3 : Act.put (Act.put (Act.put a2 (some t2) (.int .i32 (k : Nat))) (some (t2 + 1)) (.int .i32 (n : Nat))) (some (t2 + 2)) (.bool (decide ((k : Int) < n))) = a3
  have hx3 : aget a3 (t2 + 2) = .bool (decide ((k : Int) < n)) := by rw [← ha3]; exact aget_put_same _ _ _ (by simp only [size_put]; omega)
  have hf3 : Fr N lo t nt a2 a3 := by rw [← ha3]; exact (((Fr.refl N lo t nt a2).put _ _ (by omega)).put _ _ (by omega)).put _ _ (by omega)
  have hi3 : aget a3 i = .int .i32 (k : Nat) := by rw [← ha3, aget_put_other _ _ _ _ (by omega), aget_put_other _ _ _ _ (by omega), aget_put_other _ _ _ _ (by omega)]; exact I.si
  have hl3 : aget a3 l = .int .i32 (n : Nat) := by rw [← ha3, aget_put_other _ _ _ _ (by omega), aget_put_other _ _ _ _ (by omega), aget_put_other _ _ _ _ (by omega)]; exact I.sl
  have hu3 : aget a3 u = .slice (some ⟨p, 0, none⟩) n cap := by rw [← ha3, aget_put_other _ _ _ _ (by omega), aget_put_other _ _ _ _ (by omega), aget_put_other _ _ _ _ (by omega)]; exact I.su
  clear ha3
  have hN3 : a3.tmps.size = nt := hf3.size.trans hN2
  by_cases hlt : k < n
  · have hdec : decide ((k : Int) < n) = true := by simp; omega
    rw [hdec] at hx3
    refine wp_cond_true hx3 (wp_skip ?_)
    refine wp_seq (wp_block ?_)
    refine h O rb p T n cap k a3 w2 cs2 _ _ hN3 (((hh2.frR hk' hD hf3).cons hu3).cons hi3) hlt I.rst (I.fresh k (Nat.le_refl _) hlt) ?_ ?_
    · intro a4 w4 cs4 hst4 hf4 hk4 hs4 hv4
      have hN4 : a4.tmps.size = nt := hf4.size.trans hN3
      have hi4 : aget a4 i = .int .i32 (k : Nat) := (hf4.same _ (by omega) (.inl (by omega))).trans hi3
      have hl4 : aget a4 l = .int .i32 (n : Nat) := (hf4.same _ (by omega) (.inl (by omega))).trans hl3
      have hu4 : aget a4 u = .slice (some ⟨p, 0, none⟩) n cap := (hf4.same _ (by omega) (.inl (by omega))).trans hu3
      refine wp_reg ?_
      refine wl_move hi4 ?_
      refine wl_bin (x := .int .i32 (k : Nat)) (r := .int .i32 ((k + 1 : Nat) : Int)) (aget_put_same _ _ _ (by omega)) (eqGuard_at_int ..) ?_ ?_
      · simp only [binOp, Op.intArith]
        have : IntKind.i32.wrap ((k : Int) + 1) = (k : Int) + 1 := by
          rw [IntKind.wrap_i32]
          omega
        simp [this]
      refine wl_assign (aget_put_same _ _ _ (by simp only [size_put]; omega)) ?_
      refine wpList_nil ?_
      have hf5 : Fr N lo t nt a4 (((a4.put (some t4) (.int .i32 (k : Nat))).put (some (t4 + 1)) (.int .i32 ((k + 1 : Nat) : Int))).put (some i) (.int .i32 ((k + 1 : Nat) : Int))) := (((Fr.refl N lo t nt a4).put _ _ (by omega)).put _ _ (by omega)).put _ _ (by omega)
      have hi5 : aget (((a4.put (some t4) (.int .i32 (k : Nat))).put (some (t4 + 1)) (.int .i32 ((k + 1 : Nat) : Int))).put (some i) (.int .i32 ((k + 1 : Nat) : Int))) i = .int .i32 ((k + 1 : Nat) : Int) := aget_put_same _ _ _ (by simp only [size_put]; omega)
      refine ⟨⟨k + 1, cs4, ⟨by omega, I.fr.trans (hf3.trans ((hf4.mono (by omega) (by omega)).trans hf5)), hi5, ?_, ?_, ?_, ?_, I.keeps.trans hk4, ?_⟩⟩, ?_⟩
      · rw [aget_put_other _ _ _ _ (by omega), aget_put_other _ _ _ _ (by omega), aget_put_other _ _ _ _ (by omega)]; exact hl4
      · rw [aget_put_other _ _ _ _ (by omega), aget_put_other _ _ _ _ (by omega), aget_put_other _ _ _ _ (by omega)]; exact hu4
      · rw [st_snoc]
        cases hx : st.bind (rdMany (rd ver flex e) k) with
        | none => rw [hx] at hst4; exact hst4
        | some q =>
          rw [hx] at hst4
          change RSt gE E O w4 rb p cs4 T ((rd ver flex e q.2).map (·.2)) at hst4
          change RSt gE E O w4 rb p cs4 T (((rd ver flex e q.2).bind fun r => some (q.1 ++ [r.1], r.2)).map (·.2))
          cases hy : rd ver flex e q.2 with
          | none => rw [hy] at hst4; exact hst4
          | some r => rw [hy] at hst4; exact hst4
      · intro j hj1 hj2
        have hmul : k * esz + esz ≤ j * esz := by
          have := Nat.mul_le_mul_right esz (show k + 1 ≤ j by omega)
          rw [Nat.add_mul, Nat.one_mul] at this
          exact this
        exact (I.fresh j (by omega) hj2).same hs4 (.inr hmul)
      · intro vs r hv
        rw [st_snoc] at hv
        cases hx : st.bind (rdMany (rd ver flex e) k) with
        | none => rw [hx] at hv; cases hv
        | some q =>
          rw [hx] at hv
          change ((rd ver flex e q.2).bind fun r => some (q.1 ++ [r.1], r.2)) = _ at hv
          cases hy : rd ver flex e q.2 with
          | none => rw [hy] at hv; cases hv
          | some r2 =>
            rw [hy] at hv
            simp only [Option.bind_some, Option.some.injEq, Prod.mk.injEq] at hv
            obtain ⟨rfl, rfl⟩ := hv
            obtain ⟨hlen, hrep⟩ := I.done q.1 q.2 hx
            refine ⟨by simp [hlen], fun j v hj => ?_⟩
            by_cases hjk : j < k
            · rw [List.getElem?_append_left (by omega)] at hj
              refine (hrep j v hj).move hRT (I.rst.keepO hk4) fun m hm => ?_
              have hmul : j * esz + esz ≤ k * esz := by
                have := Nat.mul_le_mul_right esz (show j + 1 ≤ k by omega)
                rw [Nat.add_mul, Nat.one_mul] at this
                exact this
              exact I.rst.blk.same hst4.blk hs4 _ (.inl (by omega))
            · have hjk2 : j = k := by
                have := (List.getElem?_eq_some_iff.1 hj).1
                simp [hlen] at this
                omega
              subst hjk2
              rw [List.getElem?_append_right (by omega), hlen, Nat.sub_self] at hj
              simp at hj
              subst hj
              exact hv4 r2.1 r2.2 (by rw [hx]; exact hy)
      · rw [hi5, I.si]
        simp [intOf]
        omega
    · intro a4 w4 hn4 hs4 hd4 hE4 hk4
      refine hr a4 w4 ?_ hs4 (hd4.trans (hf3.defers.trans (I.fr.defers.trans hf1.defers))) hE4 (I.keeps.trans hk4)
      refine st_none (k := k + 1) ?_ (by omega)
      rw [st_snoc]
      cases hx : st.bind (rdMany (rd ver flex e) k) with
      | none => rfl
      | some q =>
        rw [hx] at hn4
        change rd ver flex e q.2 = none at hn4
        change ((rd ver flex e q.2).bind fun r => some (q.1 ++ [r.1], r.2)) = none
        rw [hn4]
        rfl
  · have hdec : decide ((k : Int) < n) = false := by simp; omega
    rw [hdec] at hx3
    have hkn : k = n := by have := I.le; omega
    subst hkn
    refine wp_cond_false hx3 (wp_exit ?_)
    simp only [Exit.then, Exit.inBlock, if_true]
    exact hq a3 w2 cs2 I.rst (hf1.trans (I.fr.trans hf3)) hu3 I.keeps I.done
/-- The loop over nothing. -/
theorem rd_for0 {i l t2 t4 B B' r1 r2 r4 T2 U2 T3 U3 ty1 ty2 ty3 ty4 ty5 ty6 ty7 : Nat} {p1 p2 p3 p4 p5 p6 p7 : String} {e1 e2 e3 e4 e5 e6 e7 : Array Edge} {c : Code}
    (hD : Dims N nt lo t) (hd : t ≤ t2 ∧ t2 + 2 < nt ∧ lo ≤ l ∧ l < N ∧ lo ≤ i ∧ i < N ∧ l ≠ i) (a : Act) (w : World) (n : Int) (Q : Exit → Act → World → Prop)
    (hN : a.tmps.size = nt) (hn : n ≤ 0) (hl : aget a l = .int .i32 n) (hq : ∀ a', Fr N lo t nt a a' → (∀ s, s ≠ i → s < N → aget a' s = aget a s) → Q .normal a' w) :
    ((Code.region r1 #[⟨some i, .assign (.const (.int .i32 0)), ty1, p1, e1, none⟩] false).seq (.block B (.loop
      (((Code.region r2 #[⟨some t2, .move (.tmp i), ty2, p2, e2, none⟩, ⟨some (t2 + 1), .move (.tmp l), ty3, p3, e3, none⟩, ⟨some (t2 + 2), .binOp .lss T2 (.tmp t2) (.tmp (t2 + 1)) U2, ty4, p4, e4, none⟩] false).seq (.cond (.tmp (t2 + 2)) .skip (.exit B))).seq
        ((Code.block B' c).seq (.region r4 #[⟨some t4, .move (.tmp i), ty5, p5, e5, none⟩, ⟨some (t4 + 1), .binOp .add T3 (.tmp t4) (.const (.int .i32 1)) U3, ty6, p6, e6, none⟩, ⟨some i, .assign (.tmp (t4 + 1)), ty7, p7, e7, none⟩] false)))))).wp P Q a w := by
  obtain ⟨d1, d2, d3, d4, d5, d6, d7⟩ := hd
  have g1 := hD.dOne; have g2 := hD.dLo; have g3 := hD.dT; have g4 := hD.dN
  refine wp_seq (wp_reg (wl_assign_c (wpList_nil ?_)))
  refine wp_block ?_
  refine wp_loop (fun a' w' => a' = a.put (some i) (.int .i32 0) ∧ w' = w) (fun _ _ => 0) ⟨rfl, rfl⟩ ?_
  rintro a2 w2 ⟨rfl, rfl⟩
  refine wp_seq (wp_seq (wp_reg ?_))
  refine wl_move (v := .int .i32 0) (aget_put_same _ _ _ (by omega)) ?_
  refine wl_move (v := .int .i32 n) (by rw [aget_put_other _ _ _ _ (by omega), aget_put_other _ _ _ _ (by omega)]; exact hl) ?_
  refine wl_bin2 (r := .bool (decide ((0 : Int) < n))) (x := .int .i32 0) (y := .int .i32 n) (by rw [aget_put_other _ _ _ _ (by omega)]; exact aget_put_same _ _ _ (by simp only [size_put]; omega)) (aget_put_same _ _ _ (by simp only [size_put]; omega)) (eqGuard_at_int ..) (by simp [binOp, Op.intCmp]) ?_
  refine wpList_nil ?_
  have hdec : decide ((0 : Int) < n) = false := by simp; omega
  rw [hdec]
  refine wp_cond_false (aget_put_same _ _ _ (by simp only [size_put]; omega)) (wp_exit ?_)
  simp only [Exit.then, Exit.inBlock, if_true]
  refine hq _ (((((Fr.refl N lo t nt a).put _ _ (by omega)).put _ _ (by omega)).put _ _ (by omega)).put _ _ (by omega)) fun s hs hs2 => ?_
  rw [aget_put_other _ _ _ s (by omega), aget_put_other _ _ _ s (by omega), aget_put_other _ _ _ s (by omega), aget_put_other _ _ _ s (by omega)]
end
end Go.Proofs.YtellhjpdpaeieaaDoor
