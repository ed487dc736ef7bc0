/- Shared texts of these proofs, laid together by merge.py: Krc, Krd, Kre, Krf, Krg, Krh, Krl. -/
import Derived.Test.YtmpilpgabelmiaaGreatDoorVh
set_option linter.unusedVariables false
/- Known tags, read: one tag, known or not. -/
namespace Go.Proofs.YtmpilpgabelmiaaGreatDoor
open Go Go.RowKit Go.Maps
set_option linter.unusedVariables false

/-- What is asked of a known tag's cells ahead of its reading. -/
def KPre : Sch → List Value → Nat → Option (List UInt8) → Prop
  | .leaf k, cs, p, _ => p + top (.leaf k) ≤ cs.length
  | .list _ _ _, cs, p, st => cs[p]? = some (.slice none 0 0) ∨ (st = none ∧ ∃ ad n c, cs[p]? = some (.slice ad n c))
  | _, _, _, _ => False
theorem kpre_fresh {k : Leaf} {cs : List Value} {p : Nat} (h : p + top (.leaf k) ≤ cs.length) : Fresh cs p (.leaf k) := by
  cases k <;> simp only [top, Fresh] at h ⊢ <;> omega
theorem rd_nil {ver : Int} {flex : Bool} {f : Sch} {d : Int} (h : knd f d = true) : rd ver flex f [] = none := by
  cases f with
  | leaf k => cases k <;> simp [knd] at h <;> cases flex <;> rfl
  | list nul z e => cases flex <;> rfl
  | _ => simp [knd] at h

section
variable {RT : RTags} {P : Program} {N nt gE : Nat} {E : Value} {K : Slots} {lo t : Nat} {ver : Int} {flex : Bool}
/-- The code of a field, with what follows it. -/
def RdFK (RT : RTags) (P : Program) (N nt gE : Nat) (E : Value) (ver : Int) (flex : Bool) (K : Slots) (lo t s bp rs : Nat) (ct : Code → Code) (off : Nat) (f : Sch) : Prop :=
  ∀ (O : List Nat) (rb b o T : Nat) (a : Act) (w : World) (cs : List Value) (st : Option (List UInt8)) (Q : Exit → Act → World → Prop) (R : Code),
    a.tmps.size = nt → Holds ((s, .pointer (some ⟨b, o, none⟩)) :: (bp, .pointer (some ⟨rb, 0, none⟩)) :: K) a → RSt gE E O w rb b cs T st → Fresh cs (o + off) f →
    (∀ a' w' cs', RSt gE E O w' rb b cs' T ((st.bind (rd ver flex f)).map (·.2)) → Fr N lo t nt a a' → Keeps [rb, b] w w' → SameOut cs cs' (o + off) (o + (off + top f)) → (∀ v r, st.bind (rd ver flex f) = some (v, r) → Rep RT O w' ver flex f b (o + off) v) → R.wp P Q a' w') →
    (∀ a' w', st.bind (rd ver flex f) = none → a'.tmps.size = nt → a'.defers = a.defers → aget a' rs = E → Keeps [rb, b] w w' → Q .ret a' w') → (ct R).wp P Q a w
theorem rdFK_leaf {s bp rs v t1 T' k U off r ty1 ty2 ty3 ty4 ty5 : Nat} {p1 p2 p3 p4 p5 : String} {e1 e2 e3 e4 e5 : Array Edge} {c : Code} {lf : Leaf}
    (hk : KOK N lo t ((s, .int .i64 0) :: (bp, .int .i64 0) :: K)) (hT : FieldAt P T' k off) (hU : OneCell P U) (hD : Dims N nt lo t) (hd : t ≤ t1 ∧ t1 + 3 < nt ∧ v ≠ t1) (hlf : lf ≠ .uuid) (h : RdL P N nt gE E ver flex K lo t bp c v lf) :
    RdFK RT P N nt gE E ver flex K lo t s bp rs (fun R => c.seq ((Code.region r #[⟨some t1, .move (.tmp s), ty1, p1, e1, none⟩, ⟨some (t1 + 1), .move (.tmp v), ty2, p2, e2, none⟩, ⟨some (t1 + 2), .nilCheck (.tmp t1), ty3, p3, e3, none⟩, ⟨some (t1 + 3), .fieldAddr T' (.tmp (t1 + 2)) k, ty4, p4, e4, none⟩,
      ⟨none, .store U (.tmp (t1 + 3)) (.tmp (t1 + 1)), ty5, p5, e5, none⟩] false).seq R)) off (.leaf lf) := by
  intro O rb b o T a w cs st Q R hN hh hst hF hq hr
  have hl : o + off < cs.length := by cases lf <;> first | exact hF | exact absurd rfl hlf
  have ht : top (.leaf lf) = 1 := by cases lf <;> first | rfl | exact absurd rfl hlf
  refine wp_seq (h O rb b T a w cs st _ hN hh.tail hst fun a1 w1 x hx hone hst1 hf1 hk1 hlv => ?_)
  have hh1 := hh.frR (kokR hk) hD hf1
  refine wp_seq (reg_store hT hU (hf1.size.trans hN) hh1.head hx hone hst1.blk hl hD hd fun a2 hf2 => ?_)
  refine hq a2 _ _ (hst1.store (o + off) x) (hf1.trans hf2) ((keeps_rb hk1).trans (keeps_b w1 _ _)) ?_ ?_
  · rw [ht]
    exact SameOut.set cs (o + off) x
  · intro v r hv
    have hb : Keeps O w1 (w1.setCell ⟨b, o + off, none⟩ x) := (Keeps.refl O w1).setCell hst.bO _
    exact ((hlv v r hv).keeps hb).rep ((hst1.blk.set (o + off) x).cell_some (by rw [List.getElem?_set_self hl]))
theorem rdFK_var {s bp rs u r ty1 off : Nat} {p1 : String} {e1 : Array Edge} {ct : Code → Code} {f : Sch} {z : Value} (hk : KOK N lo t ((s, .int .i64 0) :: (bp, .int .i64 0) :: K)) (hD : Dims N nt lo t) (hd : lo ≤ u ∧ u < N) (h : RdFK RT P N nt gE E ver flex K lo t s bp rs ct off f) :
    RdFK RT P N nt gE E ver flex K lo t s bp rs (fun R => (Code.region r #[⟨some u, .assign (.const z), ty1, p1, e1, none⟩] false).seq (ct R)) off f := by
  intro O rb b o T a w cs st Q R hN hh hst hFr hq hr
  refine wp_seq (wp_reg (wl_assign_c (wpList_nil ?_)))
  have hf : Fr N lo t nt a (a.put (some u) z) := (Fr.refl N lo t nt a).put _ _ (by omega)
  exact h O rb b o T _ w cs st Q R (hf.size.trans hN) (hh.frR (kokR hk) hD hf) hst hFr (fun a2 w2 cs2 g1 g2 => hq a2 w2 cs2 g1 (hf.trans g2)) (fun a2 w2 g1 g2 g3 => hr a2 w2 g1 g2 (g3.trans hf.defers))

/-- The code that reads a known tag's octets, by its own reader. -/
def KB (RT : RTags) (P : Program) (N nt gE : Nat) (E : Value) (ver : Int) (flex : Bool) (K : Slots) (lo t s bp rs : Nat) (c : Code) (off : Nat) (f : Sch) : Prop :=
  ∀ (O : List Nat) (rb b o T : Nat) (a : Act) (w : World) (cs : List Value) (st : Option (List UInt8)) (Q : Exit → Act → World → Prop),
    a.tmps.size = nt → Holds ((s, .pointer (some ⟨b, o, none⟩)) :: (bp, .pointer (some ⟨rb, 0, none⟩)) :: K) a → RSt gE E O w rb b cs T st → KPre f cs (o + off) st →
    (∀ a' w' cs' sp r x r', st.bind rdSp = some (sp, r) → rd ver flex f sp = some (x, r') → RSt gE E O w' rb b cs' T (some r) → Fr N lo t nt a a' → Keeps [rb, b] w w' → SameOut cs cs' (o + off) (o + (off + top f)) → Rep RT O w' ver flex f b (o + off) x → Q .normal a' w') →
    (∀ a' w', (∀ sp r, st.bind rdSp = some (sp, r) → rd ver flex f sp = none) → a'.tmps.size = nt → a'.defers = a.defers → aget a' rs = E → Keeps [rb, b] w w' → Q .ret a' w') → c.wp P Q a w
theorem rst_outer {O : List Nat} {w w' w2 : World} {rb rb' b T : Nat} {cs cs' : List Value} {st : Option (List UInt8)} {st' : Option (List UInt8)} (h : RSt gE E O w rb b cs T st) (hn : w.heap.size ≤ rb') (hr : Rdr (rb' :: O) w' rb st') {si : Option (List UInt8)} (hi : RSt gE E (rb' :: O) w2 rb' b cs' T si) (hk : Keeps [rb', b] w' w2) (hk0 : Keeps [rb] w w') :
    RSt gE E O w2 rb b cs' T st' ∧ Keeps [rb, b] w w2 := by
  have hrl := h.lt rb h.rbO
  have h1 : Keeps [rb', rb, b] w w2 := (hk0.mono (by simp)).trans (hk.mono (by simp))
  refine ⟨⟨?_, hi.blk, h.rbO, h.bO, h.ne, fun k hk' => hi.lt k (List.mem_cons_of_mem _ hk'), hi.glob, h.gO⟩, h1.close hn⟩
  have h2 : Rdr (rb' :: O) w2 rb st' := hr.other hk (by simp only [List.mem_cons, List.not_mem_nil, or_false, not_or]; exact ⟨by omega, fun e => h.ne e.symm⟩) (by
    intro k hk'
    simp only [List.mem_cons, List.not_mem_nil, or_false] at hk'
    rcases hk' with rfl | rfl
    · exact List.mem_cons_self ..
    · exact List.mem_cons_of_mem _ h.bO)
  exact h2.mono fun k hk' => List.mem_cons_of_mem _ hk'
theorem kb_leaf {s bp rs ib x t1 t2 t3 t4 lo' t' FU FS FC U I J JE UE r0 r1 r2 r3 off y1 y2 y3 y4 y5 y6 y7 y8 y9 y10 y11 y12 : Nat} {q1 q2 q3 q4 q5 q6 q7 q8 q9 q10 q11 q12 : String} {e1 e2 e3 e4 e5 e6 e7 e8 e9 e10 e11 e12 : Array Edge} {at1 at2 at3 : Array TypeId} {ct : Code → Code} {lf : Leaf} {d : Int} {tE : TypeId} {vE : Value}
    (hRT : RTMono RT) (hk : KOK N lo t ((s, .int .i64 0) :: (bp, .int .i64 0) :: K)) (heU : Enters P FU) (hCU : UvC P FU) (heS : Enters P FS) (hS : SpanC P FS) (hI : P.underlying I = some (.int .u32)) (hJ : P.underlying J = some (.int .i64)) (hU : ManyCells P U 2) (hUr : U = 110) (hB : ∀ ad n m, P.built U [(0, .slice ad n m)] = some #[.slice ad n m, .bool false])
    (heC : Enters P FC) (hC : CompleteC P FC gE E) (hE' : E = .iface tE vE) (hJE : ∀ w t v, (binOp .neq JE (.iface t v) .nilIface).run P w = .ok (.bool true) w) (hJ0 : ∀ w, (binOp .neq JE .nilIface .nilIface).run P w = .ok (.bool false) w) (hJg : ∀ x, eqGuard .neq JE (.tmp t3) (.const .nilIface) x .nilIface = pure ())
    (hD : Dims N nt lo t) (hD' : Dims N nt lo' t') (hd : t ≤ t1 ∧ t1 + 3 < nt ∧ lo ≤ ib ∧ ib < N ∧ bp < lo ∧ s < lo ∧ ib < lo' ∧ lo ≤ lo' ∧ t ≤ t') (hd2 : t ≤ t2 ∧ t2 < nt ∧ lo ≤ x ∧ x < N ∧ t ≤ t3 ∧ t3 + 1 < nt ∧ t4 < nt ∧ rs < nt ∧ rs ≠ x) (hkn : knd (.leaf lf) d = true)
    (h : RdFK RT P N nt gE E ver flex K lo' t' s ib rs ct off (.leaf lf)) :
    KB RT P N nt gE E ver flex K lo t s bp rs ((Code.region r0 #[⟨some t1, .call { callee := .value (.func FU), args := #[.tmp bp], argTypes := at1 }, y1, q1, e1, none⟩, ⟨some (t1 + 1), .convert I J (.tmp t1), y2, q2, e2, none⟩,
      ⟨some (t1 + 2), .call { callee := .value (.func FS), args := #[.tmp bp, .tmp (t1 + 1)], argTypes := at2 }, y3, q3, e3, none⟩, ⟨some (t1 + 3), .build U #[(0, .tmp (t1 + 2))], y4, q4, e4, none⟩, ⟨some ib, .alloc U, y5, q5, e5, none⟩,
      ⟨none, .store U (.tmp ib) (.tmp (t1 + 3)), y6, q6, e6, none⟩] false).seq (ct
      ((Code.region r1 #[⟨some t2, .call { callee := .value (.func FC), args := #[.tmp ib], argTypes := at3 }, y7, q7, e7, none⟩, ⟨some x, .assign (.tmp t2), y8, q8, e8, none⟩] false).seq
      ((Code.region r2 #[⟨some t3, .move (.tmp x), y9, q9, e9, none⟩, ⟨some (t3 + 1), .binOp .neq JE (.tmp t3) (.const .nilIface) UE, y10, q10, e10, none⟩] false).seq
      (.cond (.tmp (t3 + 1)) ((Code.region r3 #[⟨some t4, .move (.tmp x), y11, q11, e11, none⟩, ⟨some rs, .assign (.tmp t4), y12, q12, e12, none⟩] false).seq .ret) .skip))))) off (.leaf lf) := by
  intro O rb b o T a w cs st Q hN hh hst hF hq hr
  obtain ⟨d1, d2, d3, d4, d5, d6, d7, d9, d10⟩ := hd
  obtain ⟨c1, c2, c3, c4, c5, c6, c7, c8, c9⟩ := hd2
  refine wp_seq (reg_inner heU hCU heS hS hI hJ hU hUr hB hN hh.tail.head hst hD ⟨d1, d2, d3, d4, d5⟩ fun a1 w1 rb' sp hnew hib hri hro hf1 hk1 hs1 hs0 => ?_)
  have hh1 := hh.frR (kokR hk) hD hf1
  have hN1 := hf1.size.trans hN
  refine h (rb' :: O) rb' b o T a1 w1 cs (some sp) _ _ hN1 ?_ hri (kpre_fresh hF) ?_ ?_
  · intro p hp
    simp only [List.mem_cons] at hp
    rcases hp with rfl | rfl | hp
    · exact hh1.head
    · exact hib
    · exact hh1 p (by simp [hp])
  · intro a2 w2 cs2 hst2 hf2 hk2 hso hrep
    have hN2 := hf2.size.trans hN1
    have hib2 : aget a2 ib = .pointer (some ⟨rb', 0, none⟩) := (hf2.same ib (by have := hD'.dN; have := hD'.dT; have := hD'.dLo; omega) (.inl d7)).trans hib
    obtain ⟨k1, k2⟩ := rst_outer hst hnew hro hst2 hk2 hk1
    refine reg_err heC hC hE' hJE hJ0 hJg hN2 hib2 hst2.rdr hst2.glob hD ⟨c1, c2, c3, c4, c5, c6, c7, c8, c9⟩ (fun a3 hsome hf3 => ?_) (fun a3 hnone g1 g2 g3 => hr a3 w2 ?_ g1 (g2.trans (hf2.defers.trans hf1.defers)) g3 k2)
    · cases hx : (some sp).bind (rd ver flex (.leaf lf)) with
      | none => rw [hx] at hsome; cases hsome
      | some q =>
        have hsp : ∃ r, st.bind rdSp = some (sp, r) := by
          cases hy : st.bind rdSp with
          | none =>
            rw [hs0 hy] at hx
            have : rd ver flex (.leaf lf) [] = some q := hx
            rw [rd_nil hkn] at this
            cases this
          | some z => exact ⟨z.2, by rw [← hs1 z.1 z.2 hy]⟩
        obtain ⟨r, hr'⟩ := hsp
        rw [hr'] at k1
        exact hq a3 w2 cs2 sp r q.1 q.2 hr' hx k1 (hf1.trans ((hf2.mono d9 d10).trans hf3)) k2 hso ((hrep q.1 q.2 hx).mono hRT fun k hk' => List.mem_cons_of_mem _ hk')
    · intro sp' r' hy
      have := hs1 sp' r' hy
      subst this
      cases hx : rd ver flex (.leaf lf) sp' with
      | none => rfl
      | some q =>
        have hx' : (some sp').bind (rd ver flex (.leaf lf)) = some q := hx
        rw [hx'] at hnone
        cases hnone
  · intro a2 w2 hn g1 g2 g3 g4
    refine hr a2 w2 (fun sp' r' hy => ?_) g1 (g2.trans hf1.defers) g3 ?_
    · have := hs1 sp' r' hy
      subst this
      exact hn
    · have hrl := hst.lt rb hst.rbO
      have h1 : Keeps [rb', rb, b] w w2 := (hk1.mono (by simp)).trans (g4.mono (by simp))
      exact h1.close hnew
end
end Go.Proofs.YtmpilpgabelmiaaGreatDoor

/- Known tags, read: an unknown one; which of them it is. -/
namespace Go.Proofs.YtmpilpgabelmiaaGreatDoor
open Go Go.RowKit Go.Maps
set_option linter.unusedVariables false

/-- Values of operations that no other one of the region waits for or turns: they may be taken first. -/
def yHeads (P : Program) (ops : Array Oper) : List Oper → Act → (Act → Prop) → Prop
  | [], a, K => K a
  | o :: l, a, K => ∃ v, Yields P ops o v a ∧ yHeads P ops l (a.put o.dst v) K
theorem yHeads_mono {P : Program} {ops : Array Oper} {K K' : Act → Prop} (h : ∀ a, K a → K' a) : ∀ {l : List Oper} {a : Act}, yHeads P ops l a K → yHeads P ops l a K'
  | [], _, hh => h _ hh
  | _ :: _, _, ⟨v, hy, hh⟩ => ⟨v, hy, yHeads_mono h hh⟩
/-- The first n operations may be taken first, one by one; the others go in order. -/
def headsB (ops : Array Oper) (n : Nat) : Bool := Region.noSelect ops && Region.lexHead .any ops (ops.size - n) n 0 (Array.replicate ops.size false)
theorem wpAny_heads {P : Program} {ops : Array Oper} {Q : Exit → Act → World → Prop} (hs : Region.noSelect ops = true) (hQ : ∀ c a w, ¬ Q (.panic c) a w) {g : Nat} {w : World} :
    ∀ (hd : List Oper) (k : Nat) (listed : Array Bool) (a : Act), (∀ j o, hd[j]? = some o → ops[k + j]? = some o) → Region.lexHead .any ops g hd.length k listed = true →
      yHeads P ops hd a (fun a' => ∀ listed', Region.seqB .any ops g (k + hd.length) listed' = true → wpAny P .any ops Q g listed' a' w) → wpAny P .any ops Q (hd.length + g) listed a w
  | [], k, listed, a, _, hB, h => by
    simp only [List.length_nil, Nat.zero_add, Nat.add_zero, Region.lexHead] at hB h ⊢
    exact h listed hB
  | o :: l, k, listed, a, hl, hB, h => by
    obtain ⟨v, hy, h⟩ := h
    simp only [List.length_cons, Region.lexHead, Bool.and_eq_true] at hB
    obtain ⟨⟨hr, hf⟩, hB'⟩ := hB
    have h0 : ops[k]? = some o := by simpa using hl 0 o rfl
    have e : (o :: l).length + g = (l.length + g) + 1 := by simp only [List.length_cons]; omega
    rw [e]
    refine wpAny_take h0 hs hf hr (fun c a w h => absurd h (hQ c _ w)) hy ?_
    refine wpAny_heads hs hQ l (k + 1) _ _ (fun j o' hj => ?_) hB' ?_
    · have := hl (j + 1) o' (by simpa using hj)
      rw [← this]
      congr 1
      omega
    · have e2 : k + (o :: l).length = k + 1 + l.length := by simp only [List.length_cons]; omega
      rw [e2] at h
      exact h
theorem wp_region_heads {P : Program} {id : Nat} {Q : Exit → Act → World → Prop} {a : Act} {w : World} {l : List Oper} (n : Nat) (hm : P.follows .mixedOrders = true) (hB : headsB l.toArray n = true) (hn : n ≤ l.length)
    (h : yHeads P l.toArray (l.take n) a (fun a' => wpList P l.toArray (fun e a w => e = .normal ∧ Q .normal a w) (l.drop n) a' w.drew)) : (Code.region id l.toArray true).wp P Q a w := by
  simp only [headsB, Bool.and_eq_true] at hB
  refine Code.wp_mono (Q := fun e a w => e = .normal ∧ Q .normal a w) (fun e a w hh => ?_) (wp_region_any hm ?_)
  · obtain ⟨rfl, hh⟩ := hh
    exact hh
  · have hlen : (l.take n).length = n := by simp; omega
    have hsz : l.toArray.size = (l.take n).length + (l.toArray.size - n) := by rw [hlen]; simp; omega
    rw [hsz]
    have hB2 := hB.2
    rw [hsz] at hB2
    have key := wpAny_heads (P := P) (Q := fun e a w => e = .normal ∧ Q .normal a w) (g := l.toArray.size - n) (w := w.drew) hB.1 (fun c a w h => nomatch h.1) (l.take n) 0 (Array.replicate l.toArray.size false) a
      (fun j o hj => ?_) (by rw [hlen]; exact hB.2) ?_
    · rw [← hsz]
      rw [← hsz] at key
      exact key
    · have hj' : j < n := by
        have := (List.getElem?_eq_some_iff.1 hj).1
        omega
      rw [List.getElem?_take_of_lt hj'] at hj
      simpa using hj
    · refine yHeads_mono (fun a' ha' listed' hl' => ?_) h
      have hd : (l.drop n).length = l.toArray.size - n := by simp
      rw [hlen, Nat.zero_add, ← hd] at hl'
      rw [← hd]
      exact wpAny_of_seq (l.drop n) n listed' a' w.drew (fun j => by simp) hl' ha'
section
variable {gE : Nat} {E : Value} {K : Slots} {N nt lo t : Nat}
theorem RSt.drew {O : List Nat} {w : World} {rb b T : Nat} {cs : List Value} {st : Option (List UInt8)} (h : RSt gE E O w rb b cs T st) : RSt gE E O w.drew rb b cs T st :=
  h.call (h.rdr.other ((Keeps.refl [] w).drew) (by simp) (by simp)) ((Keeps.refl [rb] w).drew)
/-- What is asked of Set. -/
def SetC (F : Nat) : Prop := ∀ (w : World) (p q T : Nat) (cs : List Value) (m : Option Nat) (n : Nat) (D : VD) (k : Nat) (v : Value), Blk w p cs T → cs[q]? = some (.map m) → MapAt w m n D → n < maxLen → k ≤ 4294967295 → (∀ g, m = some g → g ≠ p) →
  Calls Tryz.prog F #[.pointer (some ⟨p, q, none⟩), .int .u32 (k : Nat), v] w fun e w' => e = .returned (.tuple #[]) ∧ ∃ g, Blk w' p (cs.set q (.map (some g))) T ∧ w'.ownsMap Tryz.prog 66 R0 g (n + 1) (D.put (kl32 k) (.held v)) ∧ ((m = some g ∧ Keeps [g] w w') ∨ (m = none ∧ g = w.heap.size ∧ Keeps [p] w w'))
theorem setC : SetC 73 := tagsSetAt
set_option maxRecDepth 100000 in
/-- 's.UnknownTags.Set(key, b.Span(int(b.Uvarint())))'. -/
theorem reg_set {bp s kx t1 FU FS FSet I J T' kf e r y1 y2 y3 y4 y5 y6 y7 y8 : Nat} {q1 q2 q3 q4 q5 q6 q7 q8 : String} {e1 e2 e3 e4 e5 e6 e7 e8 : Array Edge} {at1 at2 at3 : Array TypeId} {O : List Nat} {w : World} {rb b o T : Nat} {cs : List Value} {st : Option (List UInt8)} {a : Act} {Q : Exit → Act → World → Prop} {m : Option Nat} {nn k : Nat} {D : VD}
    (hm : Tryz.prog.follows .mixedOrders = true) (heU : Enters Tryz.prog FU) (hCU : UvC Tryz.prog FU) (heS : Enters Tryz.prog FS) (hS : SpanC Tryz.prog FS) (heT : Enters Tryz.prog FSet) (hT : SetC FSet) (hI : Tryz.prog.underlying I = some (.int .u32)) (hJ : Tryz.prog.underlying J = some (.int .i64)) (hFA : FieldAt Tryz.prog T' kf e)
    (hN : a.tmps.size = nt) (hs : aget a s = .pointer (some ⟨b, o, none⟩)) (hbp : aget a bp = .pointer (some ⟨rb, 0, none⟩)) (hkx : aget a kx = .int .u32 (k : Nat)) (hk : k ≤ 4294967295) (hst : RSt gE E (mO m O) w rb b cs T st) (hc : cs[o + e]? = some (.map m)) (hM : MapAt w m nn D) (hnn : nn < maxLen) (hg : ∀ g, m = some g → g ≠ rb ∧ g ≠ b ∧ g ≠ gE) (hD : Dims N nt lo t) (hd : t ≤ t1 ∧ t1 + 7 < nt ∧ s < t1 ∧ bp < t1 ∧ kx < t1)
    (hB : headsB #[⟨some t1, .move (.tmp s), y1, q1, e1, none⟩, ⟨some (t1 + 1), .nilCheck (.tmp t1), y2, q2, e2, none⟩, ⟨some (t1 + 2), .fieldAddr T' (.tmp (t1 + 1)) kf, y3, q3, e3, none⟩, ⟨some (t1 + 3), .move (.tmp kx), y4, q4, e4, none⟩,
      ⟨some (t1 + 4), .call { callee := .value (.func FU), args := #[.tmp bp], argTypes := at1 }, y5, q5, e5, none⟩, ⟨some (t1 + 5), .convert I J (.tmp (t1 + 4)), y6, q6, e6, none⟩,
      ⟨some (t1 + 6), .call { callee := .value (.func FS), args := #[.tmp bp, .tmp (t1 + 5)], argTypes := at2 }, y7, q7, e7, none⟩, ⟨some (t1 + 7), .call { callee := .value (.func FSet), args := #[.tmp (t1 + 2), .tmp (t1 + 3), .tmp (t1 + 6)], argTypes := at3 }, y8, q8, e8, none⟩] 4 = true)
    (hq : ∀ a' w1 w' g v3, Keeps [rb] w w1 → RSt gE E (mO m O) w1 rb b cs T ((st.bind rdSp).map (·.2)) → (∀ sp r, st.bind rdSp = some (sp, r) → RB (mO m O) w1 v3 sp) → SetOut gE E O rb b T (o + e) m D k v3 nn ((st.bind rdSp).map (·.2)) cs w1 w' g → Fr N lo t nt a a' → Q .normal a' w') :
    (Code.region r #[⟨some t1, .move (.tmp s), y1, q1, e1, none⟩, ⟨some (t1 + 1), .nilCheck (.tmp t1), y2, q2, e2, none⟩, ⟨some (t1 + 2), .fieldAddr T' (.tmp (t1 + 1)) kf, y3, q3, e3, none⟩, ⟨some (t1 + 3), .move (.tmp kx), y4, q4, e4, none⟩,
      ⟨some (t1 + 4), .call { callee := .value (.func FU), args := #[.tmp bp], argTypes := at1 }, y5, q5, e5, none⟩, ⟨some (t1 + 5), .convert I J (.tmp (t1 + 4)), y6, q6, e6, none⟩,
      ⟨some (t1 + 6), .call { callee := .value (.func FS), args := #[.tmp bp, .tmp (t1 + 5)], argTypes := at2 }, y7, q7, e7, none⟩, ⟨some (t1 + 7), .call { callee := .value (.func FSet), args := #[.tmp (t1 + 2), .tmp (t1 + 3), .tmp (t1 + 6)], argTypes := at3 }, y8, q8, e8, none⟩] true).wp Tryz.prog Q a w := by
  obtain ⟨d1, d2, d3, d4, d5⟩ := hd
  have g1 := hD.dOne; have g2 := hD.dLo; have g3 := hD.dT; have g4 := hD.dN
  refine wp_region_heads 4 hm hB (by simp) ?_
  have y0 : ∀ (A : Act) (o : Oper) (v : Value) (ops : Array Oper), o.guard = none → (∀ w, (execOp A.eval o).run Tryz.prog w = .ok (.value v) w) → Yields Tryz.prog ops o v A := fun A o v ops hg hr => .inl ⟨by simp [Region.wanted, hg], hr⟩
  refine ⟨.pointer (some ⟨b, o, none⟩), y0 _ _ _ _ rfl (fun w => by simp [execOp, aget_eval, hs]), ?_⟩
  have e0 : ∀ (A : Act) (d s' : Nat) (ad : Addr) (y : Nat) (q : String) (ee : Array Edge), aget A s' = .pointer (some ad) → ∀ w, (execOp A.eval ⟨some d, .nilCheck (.tmp s'), y, q, ee, none⟩).run Tryz.prog w = .ok (.value (.pointer (some ad))) w := by
    intro A d s' ad y q ee hA w
    simp [execOp, aget_eval, hA]
  refine ⟨.pointer (some ⟨b, o, none⟩), y0 _ _ _ _ rfl (e0 _ _ _ _ _ _ _ (aget_put_same _ _ _ (by omega))), ?_⟩
  have e00 : ∀ (A : Act) (d s' : Nat) (ad : Addr) (y : Nat) (q : String) (ee : Array Edge), aget A s' = .pointer (some ad) → ∀ w, (execOp A.eval ⟨some d, .fieldAddr T' (.tmp s') kf, y, q, ee, none⟩).run Tryz.prog w = .ok (.value (.pointer (some (ad.add e)))) w := by
    intro A d s' ad y q ee hA w
    simp [execOp, aget_eval, hA, hFA ad w]
  refine ⟨.pointer (some ⟨b, o + e, none⟩), y0 _ _ _ _ rfl (fun w => (e00 _ _ _ _ _ _ _ (aget_put_same _ _ _ (by simp only [size_put]; omega)) w).trans (by rw [Addr.add_lit])), ?_⟩
  have e000 : ∀ (A : Act), aget A kx = .int .u32 (k : Nat) → ∀ w, (execOp A.eval ⟨some (t1 + 3), .move (.tmp kx), y4, q4, e4, none⟩).run Tryz.prog w = .ok (.value (.int .u32 (k : Nat))) w := by
    intro A hA w
    simp [execOp, aget_eval, hA]
  refine ⟨.int .u32 (k : Nat), y0 _ _ _ _ rfl (e000 _ (by rw [aget_put_other _ _ _ kx (by omega), aget_put_other _ _ _ kx (by omega), aget_put_other _ _ _ kx (by omega)]; exact hkx)), ?_⟩
  have hf4 : Fr N lo t nt a ((((a.put (some t1) (.pointer (some ⟨b, o, none⟩))).put (some (t1 + 1)) (.pointer (some ⟨b, o, none⟩))).put (some (t1 + 2)) (.pointer (some ⟨b, o + e, none⟩))).put (some (t1 + 3)) (.int .u32 (k : Nat))) := ((((Fr.refl N lo t nt a).put _ _ (by omega)).put _ _ (by omega)).put _ _ (by omega)).put _ _ (by omega)
  have hbp4 : aget ((((a.put (some t1) (.pointer (some ⟨b, o, none⟩))).put (some (t1 + 1)) (.pointer (some ⟨b, o, none⟩))).put (some (t1 + 2)) (.pointer (some ⟨b, o + e, none⟩))).put (some (t1 + 3)) (.int .u32 (k : Nat))) bp = .pointer (some ⟨rb, 0, none⟩) := by
    rw [aget_put_other _ _ _ bp (by omega), aget_put_other _ _ _ bp (by omega), aget_put_other _ _ _ bp (by omega), aget_put_other _ _ _ bp (by omega)]; exact hbp
  have h24 : aget ((((a.put (some t1) (.pointer (some ⟨b, o, none⟩))).put (some (t1 + 1)) (.pointer (some ⟨b, o, none⟩))).put (some (t1 + 2)) (.pointer (some ⟨b, o + e, none⟩))).put (some (t1 + 3)) (.int .u32 (k : Nat))) (t1 + 2) = .pointer (some ⟨b, o + e, none⟩) := by
    rw [aget_put_other _ _ _ _ (by omega)]; exact aget_put_same _ _ _ (by simp only [size_put]; omega)
  have h34 : aget ((((a.put (some t1) (.pointer (some ⟨b, o, none⟩))).put (some (t1 + 1)) (.pointer (some ⟨b, o, none⟩))).put (some (t1 + 2)) (.pointer (some ⟨b, o + e, none⟩))).put (some (t1 + 3)) (.int .u32 (k : Nat))) (t1 + 3) = .int .u32 (k : Nat) := aget_put_same _ _ _ (by simp only [size_put]; omega)
  show wpList _ _ _ _ (((( a.put (some t1) (.pointer (some ⟨b, o, none⟩))).put (some (t1 + 1)) (.pointer (some ⟨b, o, none⟩))).put (some (t1 + 2)) (.pointer (some ⟨b, o + e, none⟩))).put (some (t1 + 3)) (.int .u32 (k : Nat))) w.drew
  generalize ((((a.put (some t1) (.pointer (some ⟨b, o, none⟩))).put (some (t1 + 1)) (.pointer (some ⟨b, o, none⟩))).put (some (t1 + 2)) (.pointer (some ⟨b, o + e, none⟩))).put (some (t1 + 3)) (.int .u32 (k : Nat))) = A at *
  have hst0 := hst.drew
  have hN4 := hf4.size.trans hN
  have hM0 : MapAt w.drew m nn D := by
    cases m with
    | none => exact hM
    | some g => exact hM
  have k0 : Keeps [rb] w w.drew := (Keeps.refl [rb] w).drew
  generalize w.drew = w0 at *
  refine wl_call (R := RdPost rdUv (fun _ _ v n => v = .int .u32 (n : Nat)) (fun v => v = .int .u32 0) (mO m O) rb w0 st) heU ?_ ?_
  · simp only [List.map_toArray, List.map_cons, List.map_nil, aget_eval]
    rw [hbp4]
    exact hCU _ rb w0 st hst0.rbO hst0.lt hst0.rdr
  intro en w1 hp
  obtain ⟨k1, rfl, hk1, hr1, hkp, hv, -⟩ := uvVal0 hp
  refine ⟨_, rfl, ?_⟩
  have hst1 := hst0.call hr1 hkp
  refine wl_conv_u32 hI hJ (aget_put_same _ _ _ (by omega)) hk1 ?_
  refine wl_call (R := RdPost (rdSpan (k1 : Nat)) (fun O w v s => RB O w v s) (fun v => v = .slice none 0 0) (mO m O) rb w1 ((st.bind rdUv).map (·.2))) heS ?_ ?_
  · simp only [List.map_toArray, List.map_cons, List.map_nil, aget_eval]
    rw [aget_put_other _ _ _ bp (by omega), aget_put_other _ _ _ bp (by omega), hbp4, aget_put_same _ _ _ (by simp only [size_put]; omega)]
    exact hS _ rb w1 _ _ hst1.rbO hst1.lt hst1.rdr
  rintro en w2 ⟨v3, rfl, hr2, hk2, hbad, hgood⟩
  rw [← rdSp_st st k1 hv] at hr2 hbad hgood
  refine ⟨_, rfl, ?_⟩
  have hst2 := hst1.call hr2 hk2
  have hk02 : Keeps [rb] w0 w2 := hkp.trans hk2
  have hM2 : MapAt w2 m nn D := hM0.keeps hk02 (fun g hgm => by simpa using (hg g hgm).1)
  refine wl_call (R := fun en w' => en = .returned (.tuple #[]) ∧ ∃ g, SetOut gE E O rb b T (o + e) m D k v3 nn ((st.bind rdSp).map (·.2)) cs w2 w' g) heT ?_ ?_
  · simp only [List.map_toArray, List.map_cons, List.map_nil, aget_eval]
    rw [aget_put_other _ _ _ (t1 + 2) (by omega), aget_put_other _ _ _ (t1 + 2) (by omega), aget_put_other _ _ _ (t1 + 2) (by omega), h24,
      aget_put_other _ _ _ (t1 + 3) (by omega), aget_put_other _ _ _ (t1 + 3) (by omega), aget_put_other _ _ _ (t1 + 3) (by omega), h34, aget_put_same _ _ _ (by simp only [size_put]; omega)]
    refine (hT w2 b (o + e) T cs m nn D k v3 hst2.blk hc hM2 hnn hk (fun g hgm => (hg g hgm).2.1)).mono ?_
    rintro en w3 ⟨rfl, g, b1, b2, b3⟩
    exact ⟨rfl, g, setOut hst2 hg b1 b2 b3⟩
  rintro en w3 ⟨rfl, g, hso⟩
  refine ⟨_, rfl, ?_⟩
  refine wpList_nil (And.intro rfl (hq _ w2 w3 g v3 (k0.trans hk02) hst2 (fun sp r hx => hgood sp r hx) hso ?_))
  exact hf4.trans (((((Fr.refl N lo t nt A).put _ _ (by omega)).put _ _ (by omega)).put _ _ (by omega)).put _ _ (by omega))

/-- The code that reads one tag, of which the number is known: it is one of those from i on, or none. -/
def SwC (gE : Nat) (E : Value) (N nt : Nat) (ver : Int) (K : Slots) (lo t s bp rs kx tk : Nat) (e i : Nat) (L : List (Nat × Int × Sch)) (c : Code) : Prop :=
  ∀ (O : List Nat) (rb b o T : Nat) (a : Act) (w : World) (cs : List Value) (st : Option (List UInt8)) (Q : Exit → Act → World → Prop) (k : Nat) (m : Option Nat) (nn : Nat) (D : VD),
    a.tmps.size = nt → Holds ((s, .pointer (some ⟨b, o, none⟩)) :: (bp, .pointer (some ⟨rb, 0, none⟩)) :: K) a → aget a tk = .int .u32 (k : Nat) → aget a kx = .int .u32 (k : Nat) → i ≤ k → k ≤ 4294967295 → RSt gE E (mO m O) w rb b cs T st →
    (∀ j c, L[j]? = some c → k = i + j → KPre c.2.2 cs (o + c.1) st) → cs[o + e]? = some (.map m) → MapAt w m nn D → nn < maxLen → (∀ g, m = some g → g ≠ rb ∧ g ≠ b ∧ g ≠ gE) →
    (∀ j c, L[j]? = some c → k = i + j → ∀ a' w' cs' sp r x r', st.bind rdSp = some (sp, r) → rd ver true c.2.2 sp = some (x, r') → RSt gE E (mO m O) w' rb b cs' T (some r) → Fr N lo t nt a a' → Keeps [rb, b] w w' → SameOut cs cs' (o + c.1) (o + (c.1 + top c.2.2)) → Rep TagMem (mO m O) w' ver true c.2.2 b (o + c.1) x → Q .normal a' w') →
    (∀ j c, L[j]? = some c → k = i + j → ∀ a' w', (∀ sp r, st.bind rdSp = some (sp, r) → rd ver true c.2.2 sp = none) → a'.tmps.size = nt → a'.defers = a.defers → aget a' rs = E → Keeps [rb, b] w w' → Q .ret a' w') →
    (i + L.length ≤ k → ∀ a' w1 w' g v3, Keeps [rb] w w1 → RSt gE E (mO m O) w1 rb b cs T ((st.bind rdSp).map (·.2)) → (∀ sp r, st.bind rdSp = some (sp, r) → RB (mO m O) w1 v3 sp) → SetOut gE E O rb b T (o + e) m D k v3 nn ((st.bind rdSp).map (·.2)) cs w1 w' g → Fr N lo t nt a a' → Q .normal a' w') →
    c.wp Tryz.prog Q a w
theorem swC_end {s bp rs kx tk e i t1 FU FS FSet I J T' kf r y1 y2 y3 y4 y5 y6 y7 y8 : Nat} {q1 q2 q3 q4 q5 q6 q7 q8 : String} {e1 e2 e3 e4 e5 e6 e7 e8 : Array Edge} {at1 at2 at3 : Array TypeId} {ver : Int}
    (hm : Tryz.prog.follows .mixedOrders = true) (heU : Enters Tryz.prog FU) (hCU : UvC Tryz.prog FU) (heS : Enters Tryz.prog FS) (hS : SpanC Tryz.prog FS) (heT : Enters Tryz.prog FSet) (hT : SetC FSet) (hI : Tryz.prog.underlying I = some (.int .u32)) (hJ : Tryz.prog.underlying J = some (.int .i64)) (hFA : FieldAt Tryz.prog T' kf e)
    (hD : Dims N nt lo t) (hd : t ≤ t1 ∧ t1 + 7 < nt ∧ s < t1 ∧ bp < t1 ∧ kx < t1)
    (hB : headsB #[⟨some t1, .move (.tmp s), y1, q1, e1, none⟩, ⟨some (t1 + 1), .nilCheck (.tmp t1), y2, q2, e2, none⟩, ⟨some (t1 + 2), .fieldAddr T' (.tmp (t1 + 1)) kf, y3, q3, e3, none⟩, ⟨some (t1 + 3), .move (.tmp kx), y4, q4, e4, none⟩,
      ⟨some (t1 + 4), .call { callee := .value (.func FU), args := #[.tmp bp], argTypes := at1 }, y5, q5, e5, none⟩, ⟨some (t1 + 5), .convert I J (.tmp (t1 + 4)), y6, q6, e6, none⟩,
      ⟨some (t1 + 6), .call { callee := .value (.func FS), args := #[.tmp bp, .tmp (t1 + 5)], argTypes := at2 }, y7, q7, e7, none⟩, ⟨some (t1 + 7), .call { callee := .value (.func FSet), args := #[.tmp (t1 + 2), .tmp (t1 + 3), .tmp (t1 + 6)], argTypes := at3 }, y8, q8, e8, none⟩] 4 = true) :
    SwC gE E N nt ver K lo t s bp rs kx tk e i [] (Code.region r #[⟨some t1, .move (.tmp s), y1, q1, e1, none⟩, ⟨some (t1 + 1), .nilCheck (.tmp t1), y2, q2, e2, none⟩, ⟨some (t1 + 2), .fieldAddr T' (.tmp (t1 + 1)) kf, y3, q3, e3, none⟩, ⟨some (t1 + 3), .move (.tmp kx), y4, q4, e4, none⟩,
      ⟨some (t1 + 4), .call { callee := .value (.func FU), args := #[.tmp bp], argTypes := at1 }, y5, q5, e5, none⟩, ⟨some (t1 + 5), .convert I J (.tmp (t1 + 4)), y6, q6, e6, none⟩,
      ⟨some (t1 + 6), .call { callee := .value (.func FS), args := #[.tmp bp, .tmp (t1 + 5)], argTypes := at2 }, y7, q7, e7, none⟩, ⟨some (t1 + 7), .call { callee := .value (.func FSet), args := #[.tmp (t1 + 2), .tmp (t1 + 3), .tmp (t1 + 6)], argTypes := at3 }, y8, q8, e8, none⟩] true) := by
  intro O rb b o T a w cs st Q k m nn D hN hh htk hkx hik hk hst hpre hc hM hnn hg hq1 hq2 hq3
  exact reg_set hm heU hCU heS hS heT hT hI hJ hFA hN hh.head hh.tail.head hkx hk hst hc hM hnn hg hD hd hB (hq3 (by simpa using hik))
theorem swC_cons {s bp rs kx tk e i t1 J1 J2 r y1 y2 off lo' t' : Nat} {d : Int} {q1 q2 : String} {e1 e2 : Array Edge} {ver : Int} {L : List (Nat × Int × Sch)} {f : Sch} {c1 c2 : Code} {iI : Int} (hiI : iI = (i : Nat))
    (hk : KOK N lo t ((s, .int .i64 0) :: (bp, .int .i64 0) :: K)) (hD : Dims N nt lo t) (hd : t ≤ t1 ∧ t1 + 1 < nt ∧ N ≤ tk ∧ tk < t ∧ kx < lo ∧ kx < t1 ∧ lo ≤ lo' ∧ t ≤ t') (hi : i ≤ 4294967295)
    (h1 : KB TagMem Tryz.prog N nt gE E ver true K lo' t' s bp rs c1 off f) (h2 : SwC gE E N nt ver K lo t s bp rs kx tk e (i + 1) L c2) :
    SwC gE E N nt ver K lo t s bp rs kx tk e i ((off, d, f) :: L) ((Code.region r #[⟨some (t1 + 1), .binOp .eql J1 (.tmp tk) (.const (.int .u32 iI)) J2, y1, q1, e1, none⟩, ⟨some t1, .assign (.tmp (t1 + 1)), y2, q2, e2, none⟩] false).seq (.cond (.tmp t1) c1 c2)) := by
  subst hiI
  intro O rb b o T a w cs st Q k m nn D hN hh htk hkx hik hkk hst hpre hc hM hnn hg hq1 hq2 hq3
  obtain ⟨d1, d2, d3, d4, d5, d6, d7, d8⟩ := hd
  have g1 := hD.dOne; have g2 := hD.dLo; have g3 := hD.dT; have g4 := hD.dN
  refine wp_seq (wp_reg ?_)
  refine wl_bin (r := .bool (decide ((k : Int) = i))) htk (eqGuard_at_int ..) (by simp [binOp, Op.intCmp]; try rfl) ?_
  refine wl_assign (aget_put_same _ _ _ (by omega)) ?_
  refine wpList_nil ?_
  have f1 : Fr N lo t nt a ((a.put (some (t1 + 1)) (.bool (decide ((k : Int) = i)))).put (some t1) (.bool (decide ((k : Int) = i)))) := ((Fr.refl N lo t nt a).put _ _ (by omega)).put _ _ (by omega)
  have x1 : aget ((a.put (some (t1 + 1)) (.bool (decide ((k : Int) = i)))).put (some t1) (.bool (decide ((k : Int) = i)))) t1 = .bool (decide ((k : Int) = i)) := aget_put_same _ _ _ (by simp only [size_put]; omega)
  have htk1 : aget ((a.put (some (t1 + 1)) (.bool (decide ((k : Int) = i)))).put (some t1) (.bool (decide ((k : Int) = i)))) tk = .int .u32 (k : Nat) := by rw [aget_put_other _ _ _ _ (by omega), aget_put_other _ _ _ _ (by omega)]; exact htk
  have hkx1 : aget ((a.put (some (t1 + 1)) (.bool (decide ((k : Int) = i)))).put (some t1) (.bool (decide ((k : Int) = i)))) kx = .int .u32 (k : Nat) := by rw [aget_put_other _ _ _ _ (by omega), aget_put_other _ _ _ _ (by omega)]; exact hkx
  generalize ((a.put (some (t1 + 1)) (.bool (decide ((k : Int) = i)))).put (some t1) (.bool (decide ((k : Int) = i)))) = a1 at *
  have hh1 := hh.frR (kokR hk) hD f1
  have hN1 := f1.size.trans hN
  simp only [Exit.then]
  by_cases hki : k = i
  · have hdec : decide ((k : Int) = i) = true := by simp; omega
    rw [hdec] at x1
    refine wp_cond_true x1 ?_
    refine h1 (mO m O) rb b o T a1 w cs st Q hN1 hh1 hst (hpre 0 _ rfl (by omega)) ?_ ?_
    · intro a2 w2 cs2 sp r x r' k1 k2 k3 k4 k5 k6 k7
      exact hq1 0 _ rfl (by omega) a2 w2 cs2 sp r x r' k1 k2 k3 (f1.trans (k4.mono d7 d8)) k5 k6 k7
    · intro a2 w2 k1 k2 k3 k4 k5
      exact hq2 0 _ rfl (by omega) a2 w2 k1 k2 (k3.trans f1.defers) k4 k5
  · have hdec : decide ((k : Int) = i) = false := by simp; omega
    rw [hdec] at x1
    refine wp_cond_false x1 ?_
    refine h2 O rb b o T a1 w cs st Q k m nn D hN1 hh1 htk1 hkx1 (by omega) hkk hst (fun j c hj hkj => hpre (j + 1) c (by simpa using hj) (by omega)) hc hM hnn hg ?_ ?_ ?_
    · intro j c hj hkj a2 w2 cs2 sp r x r' k1 k2 k3 k4 k5 k6 k7
      exact hq1 (j + 1) c (by simpa using hj) (by omega) a2 w2 cs2 sp r x r' k1 k2 k3 (f1.trans k4) k5 k6 k7
    · intro j c hj hkj a2 w2 k1 k2 k3 k4 k5
      exact hq2 (j + 1) c (by simpa using hj) (by omega) a2 w2 k1 k2 (k3.trans f1.defers) k4 k5
    · intro hl a2 w1 w2 g v3 k1 k2 k3 k4 k5
      exact hq3 (by simp only [List.length_cons]; omega) a2 w1 w2 g v3 k1 k2 k3 k4 (f1.trans k5)
end
end Go.Proofs.YtmpilpgabelmiaaGreatDoor

/- Known tags, read: the loop over the tags of a part. -/
namespace Go.Proofs.YtmpilpgabelmiaaGreatDoor
open Go Go.RowKit Go.Maps
set_option linter.unusedVariables false

/-- How many of them are not as by default. -/
def nU : List (Nat × Int × Sch) → List GV → Nat
  | c :: L, v :: vs => (if usual c.2.2 c.2.1 v then 0 else 1) + nU L vs
  | _, _ => 0
theorem nU_set : ∀ (L : List (Nat × Int × Sch)) (vs : List GV) (k : Nat) (x : GV), nU L (vs.set k x) ≤ nU L vs + 1
  | [], vs, k, x => by simp [nU]
  | c :: L, [], k, x => by simp [nU]
  | c :: L, v :: vs, 0, x => by
    simp only [List.set_cons_zero, nU]
    split <;> split <;> omega
  | c :: L, v :: vs, k + 1, x => by
    have := nU_set L vs k x
    simp only [List.set_cons_succ, nU]
    omega
theorem usual_dfl {f : Sch} {d : Int} (h : knd f d = true) : usual f d (dfl f d) = true := by
  cases f with
  | leaf k => cases k <;> simp [knd] at h <;> simp [usual, dfl]
  | list nul z e => rfl
  | _ => simp [knd] at h
theorem nU_dfl : ∀ {L : List (Nat × Int × Sch)}, (∀ c ∈ L, knd c.2.2 c.2.1 = true) → nU L (L.map fun c => dfl c.2.2 c.2.1) = 0
  | [], _ => rfl
  | c :: L, h => by
    simp only [List.map_cons, nU, usual_dfl (h c (List.mem_cons_self ..)), if_true, nU_dfl fun c hc => h c (List.mem_cons_of_mem _ hc)]
def ksO (ver : Int) (L : List (Nat × Int × Sch)) : List (GV × Pr GV) := L.map fun c => (dfl c.2.2 c.2.1, rd ver true c.2.2)
def KCell : Sch → List Value → Nat → Prop
  | .leaf k, cs, p => p + top (.leaf k) ≤ cs.length
  | .list _ _ _, cs, p => ∃ ad n c, cs[p]? = some (.slice ad n c)
  | _, _, _ => False
def KFr (f : Sch) (cs : List Value) (p : Nat) : Prop := isListS f = true → cs[p]? = some (.slice none 0 0)
theorem kpre_of {f : Sch} {cs : List Value} {p : Nat} {st : Option (List UInt8)} (h : KCell f cs p) (h2 : st = none ∨ KFr f cs p) : KPre f cs p st := by
  cases f <;> simp only [KCell] at h <;> try exact h.elim
  · exact h
  · rcases h2 with h2 | h2
    · exact .inr ⟨h2, h⟩
    · exact .inl (h2 rfl)
theorem kcell_fresh {f : Sch} {d : Int} {cs : List Value} {p : Nat} (hk : knd f d = true) (h : FreshD cs p d f) : KCell f cs p ∧ KFr f cs p := by
  cases f with
  | leaf k =>
    refine ⟨?_, fun h => nomatch h⟩
    have h0 : ∀ i u, (dcells (.leaf k) d)[i]? = some u → p + i < cs.length := fun i u hi => (List.getElem?_eq_some_iff.1 (h i u hi)).1
    cases k <;> simp [knd] at hk <;> simp only [KCell, top]
    · exact h0 0 _ rfl
    · exact h0 0 _ rfl
    · have := h0 15 (.int .u8 0) (by simp [dcells]); omega
    · exact h0 0 _ rfl
  | list nul z e => exact ⟨⟨_, _, _, h 0 _ rfl⟩, fun _ => h 0 _ rfl⟩
  | _ => simp [knd] at hk
theorem rep_dfl {RT : RTags} {ver : Int} {flex : Bool} {f : Sch} {d : Int} {cs : List Value} {p b T : Nat} {w : World} (O : List Nat) (hk : knd f d = true) (hB : Blk w b cs T) (h : FreshD cs p d f) : Rep RT O w ver flex f b p (dfl f d) := by
  have h0 : ∀ i u, (dcells f d)[i]? = some u → w.cell? ⟨b, p + i, none⟩ = some u := fun i u hi => hB.cell_some (h i u hi)
  cases f with
  | leaf k =>
    cases k <;> simp [knd] at hk <;> simp only [dfl, Rep, RepLeaf]
    · exact ⟨h0 0 _ rfl, hk⟩
    · exact h0 0 _ rfl
    · refine ⟨by simp, fun i u hi => ?_⟩
      have hlt : i < 16 := by
        have := (List.getElem?_eq_some_iff.1 hi).1
        simpa using this
      have hu : u = 0 := by
        rw [List.getElem?_replicate] at hi
        rw [if_pos hlt] at hi
        cases hi
        rfl
      subst hu
      exact h0 i _ (by simp only [dcells]; rw [List.getElem?_replicate, if_pos hlt]; rfl)
    · exact h0 0 _ rfl
  | list nul z e =>
    cases nul with
    | some m => simp [knd] at hk
    | none => exact ⟨none, 0, h0 0 _ rfl, by simp, (fun h => nomatch h), fun h => absurd rfl h⟩
  | _ => simp [knd] at hk

theorem many_len {α : Type} {p : Pr α} : ∀ {n : Nat} {st : Option (List UInt8)} {l : List α} {r : List UInt8}, st.bind (rdMany p n) = some (l, r) → l.length = n
  | 0, st, l, r, h => by
    cases st with
    | none => cases h
    | some bs =>
      simp only [Option.bind_some, rdMany, Pr.pure, Option.some.injEq, Prod.mk.injEq] at h
      rw [← h.1]
      rfl
  | n + 1, st, l, r, h => by
    rw [many_st] at h
    cases hx : st.bind (rdMany p n) with
    | none => rw [hx] at h; cases h
    | some q =>
      rw [hx] at h
      have := many_len hx
      cases hy : p q.2 with
      | none => rw [Option.bind_some, hy] at h; cases h
      | some z =>
        rw [Option.bind_some, hy] at h
        simp only [Option.bind_some, Option.some.injEq, Prod.mk.injEq] at h
        rw [← h.1]
        simp [this]
theorem many_prefix {α : Type} {p : Pr α} {j : Nat} : ∀ {n : Nat} {st : Option (List UInt8)} {l : List α} {r : List UInt8}, st.bind (rdMany p n) = some (l, r) → j ≤ n → ∃ r', st.bind (rdMany p j) = some (l.take j, r')
  | 0, st, l, r, h, hj => by
    obtain rfl : j = 0 := by omega
    have := many_len h
    have hl : l = [] := List.eq_nil_of_length_eq_zero this
    subst hl
    exact ⟨r, h⟩
  | n + 1, st, l, r, h, hj => by
    by_cases hjn : j = n + 1
    · subst hjn
      have := many_len h
      exact ⟨r, by rw [h, List.take_of_length_le (by omega)]⟩
    · rw [many_st] at h
      cases hx : st.bind (rdMany p n) with
      | none => rw [hx] at h; cases h
      | some q =>
        rw [hx] at h
        cases hy : p q.2 with
        | none => rw [Option.bind_some, hy] at h; cases h
        | some z =>
          rw [Option.bind_some, hy] at h
          simp only [Option.bind_some, Option.some.injEq, Prod.mk.injEq] at h
          obtain ⟨r', h2⟩ := many_prefix (l := q.1) (r := q.2) hx (show j ≤ n by omega)
          have hl := many_len hx
          refine ⟨r', ?_⟩
          rw [h2, ← h.1, List.take_append_of_le_length (by omega)]
theorem rdKn_st (ks : List (GV × Pr GV)) (st : Option (List UInt8)) (n : Nat) (hv : ∀ m r, st.bind rdUv = some (m, r) → m = n) :
    st.bind (rdKn true ks) = (((st.bind rdUv).map (·.2)).bind (rdMany rdTag1 n)).bind fun q => (kfold ks q.1 (ks.map (·.1), [])).map fun z => (kval z.1 z.2, q.2) := by
  unfold rdKn rdTagsRaw
  simp only [if_true]
  rw [bind_st, bind_st]
  cases hx : st.bind rdUv with
  | none => rfl
  | some q =>
    have := hv q.1 q.2 hx
    subst this
    rfl
theorem kfold_none {ks : List (GV × Pr GV)} {l : List (Nat × List UInt8)} {s : List GV × List (Nat × List UInt8)} {j : Nat} (h : kfold ks (l.take j) s = none) : kfold ks l s = none := by
  rw [← List.take_append_drop j l, kfold_app, h]
  rfl
theorem kfold_len {ks : List (GV × Pr GV)} : ∀ {l : List (Nat × List UInt8)} {vs vs' : List GV} {us us' : List (Nat × List UInt8)}, kfold ks l (vs, us) = some (vs', us') → vs'.length = vs.length
  | [], vs, vs', us, us', h => by
    simp only [kfold, Option.some.injEq, Prod.mk.injEq] at h
    rw [h.1]
  | t :: l, vs, vs', us, us', h => by
    simp only [kfold] at h
    cases hs : kstep ks (vs, us) t with
    | none => rw [hs] at h; cases h
    | some q =>
      rw [hs] at h
      have h2 := kfold_len (vs := q.1) (us := q.2) h
      have h3 : q.1.length = vs.length := by
        unfold kstep at hs
        split at hs
        · cases hs; rfl
        · obtain ⟨x, -, hx⟩ := Option.map_eq_some_iff.1 hs
          rw [← hx]
          simp
      rw [h2, h3]

section
variable {gE : Nat} {E : Value} {K : Slots} {N nt lo t : Nat} {ver : Int}
theorem RSt.shut {m : Option Nat} {O : List Nat} {w : World} {rb b T : Nat} {cs : List Value} {st : Option (List UInt8)} (h : RSt gE E (mO m O) w rb b cs T st) (hrb : rb ∈ O) (hb : b ∈ O) : RSt gE E O w rb b cs T st :=
  ⟨h.rdr.mono fun k hk => mO_sub hk, h.blk, hrb, hb, h.ne, fun k hk => h.lt k (mO_sub hk), h.glob, fun hk => h.gO (mO_sub hk)⟩
/-- A cell of the part that the tags turn. -/
def Touch (L : List (Nat × Int × Sch)) (e o k : Nat) : Prop := k = o + e ∨ ∃ c ∈ L, o + c.1 ≤ k ∧ k < o + c.1 + top c.2.2
structure KSame (L : List (Nat × Int × Sch)) (e o : Nat) (cs cs' : List Value) : Prop where
  length : cs'.length = cs.length
  same : ∀ k, ¬ Touch L e o k → cs'[k]? = cs[k]?
/-- The fields of the known tags and the unknown tags lie apart. -/
structure Apart (L : List (Nat × Int × Sch)) (e : Nat) : Prop where
  fields : ∀ (i j : Nat) (ci cj : Nat × Int × Sch), i ≠ j → L[i]? = some ci → L[j]? = some cj → ci.1 + top ci.2.2 ≤ cj.1 ∨ cj.1 + top cj.2.2 ≤ ci.1
  tags : ∀ c ∈ L, e < c.1 ∨ c.1 + top c.2.2 ≤ e
/-- What the loop knows behind j tags. -/
structure KLs (gE : Nat) (E : Value) (ver : Int) (L : List (Nat × Int × Sch)) (e : Nat) (O : List Nat) (rb b o T : Nat) (st : Option (List UInt8)) (w1 : World) (cs1 : List Value) (j : Nat) (cs : List Value) (m : Option Nat) (nn : Nat) (D : VD) (w : World) : Prop where
  cell : cs[o + e]? = some (.map m)
  map : MapAt w m nn D
  cnt : nn ≤ j
  new : ∀ g, m = some g → w1.heap.size ≤ g
  keeps : Keeps [rb, b] w1 w
  same : KSame L e o cs1 cs
  cells : ∀ c ∈ L, KCell c.2.2 cs (o + c.1)
  done : ∀ raw r, st.bind (rdMany rdTag1 j) = some (raw, r) → ∃ vs us, kfold (ksO ver L) raw (L.map (fun c => dfl c.2.2 c.2.1), []) = some (vs, us) ∧ vs.length = L.length ∧
    (∀ (k : Nat) (c : Nat × Int × Sch) (v : GV), L[k]? = some c → vs[k]? = some v → Rep TagMem (mO m O) w ver true c.2.2 b (o + c.1) v) ∧ View (mO m O) w D us ∧ (∀ u ∈ us, u.2.length ≤ 4294967295) ∧ nU L vs + us.length ≤ j ∧ (∀ (k : Nat) (c : Nat × Int × Sch), L[k]? = some c → (∀ u ∈ raw, u.1 ≠ k) → KFr c.2.2 cs (o + c.1))
end
end Go.Proofs.YtmpilpgabelmiaaGreatDoor

/- Known tags, read: what the loop knows behind one more tag. -/
namespace Go.Proofs.YtmpilpgabelmiaaGreatDoor
open Go Go.RowKit Go.Maps
set_option linter.unusedVariables false

section
variable {gE : Nat} {E : Value} {K : Slots} {N nt lo t : Nat} {ver : Int}
theorem ksame_trans {L : List (Nat × Int × Sch)} {e o : Nat} {a b c : List Value} (h : KSame L e o a b) (k : KSame L e o b c) : KSame L e o a c := ⟨k.length.trans h.length, fun i hi => (k.same i hi).trans (h.same i hi)⟩
theorem ksame_out {L : List (Nat × Int × Sch)} {e o : Nat} {a b : List Value} {c : Nat × Int × Sch} (hm : c ∈ L) (h : SameOut a b (o + c.1) (o + (c.1 + top c.2.2))) : KSame L e o a b :=
  ⟨h.length, fun i hi => h.out i (by
    by_cases h1 : i < o + c.1
    · exact .inl h1
    · refine .inr ?_
      rcases Nat.lt_or_ge i (o + (c.1 + top c.2.2)) with h2 | h2
      · exact absurd (.inr ⟨c, hm, by omega, by omega⟩) hi
      · exact h2)⟩
theorem ksame_set {L : List (Nat × Int × Sch)} {e o : Nat} {a : List Value} {x : Value} : KSame L e o a (a.set (o + e) x) :=
  ⟨by simp, fun i hi => List.getElem?_set_ne (fun h => hi (.inl h.symm))⟩
theorem kcell_same {f : Sch} {cs cs' : List Value} {p : Nat} (h : KCell f cs p) (hl : cs'.length = cs.length) (hs : ∀ i, i < top f → cs'[p + i]? = cs[p + i]?) : KCell f cs' p := by
  cases f <;> simp only [KCell] at h ⊢ <;> try exact h
  · omega
  · obtain ⟨ad, n, c, h⟩ := h
    have := hs 0 (by simp [top])
    rw [Nat.add_zero] at this
    exact ⟨ad, n, c, this.trans h⟩
theorem kfr_same {f : Sch} {cs cs' : List Value} {p : Nat} (h : KFr f cs p) (hs : ∀ i, i < top f → cs'[p + i]? = cs[p + i]?) : KFr f cs' p := by
  intro hf
  cases f with
  | list nul z e =>
    have := hs 0 (by simp [top])
    rw [Nat.add_zero] at this
    exact this.trans (h rfl)
  | _ => simp [isListS] at hf
theorem kcell_rep {f : Sch} {d : Int} {cs : List Value} {p b T : Nat} {O : List Nat} {w : World} {v : GV} {cs0 : List Value} (hk : knd f d = true) (hB : Blk w b cs T) (h : Rep TagMem O w ver true f b p v) (h0 : KCell f cs0 p) (hl : cs.length = cs0.length) : KCell f cs p := by
  cases f with
  | leaf k => simp only [KCell] at h0 ⊢; omega
  | list nul z e =>
    cases nul with
    | some m => simp [knd] at hk
    | none =>
      cases v <;> simp only [Rep] at h <;> try exact h.elim
      · exact absurd h.1 (by simp)
      · obtain ⟨a, cap, h1, -⟩ := h
        rw [hB.cell] at h1
        exact ⟨_, _, _, h1⟩
  | _ => simp [knd] at hk
theorem view_shut {m : Option Nat} {O : List Nat} {w : World} {D : VD} {l : List (Nat × List UInt8)} (h : View (mO m O) w D l) : View O w D l := h.mono fun k hk => mO_sub hk


theorem rst_eq' {O : List Nat} {w : World} {rb b T : Nat} {cs : List Value} {st st' : Option (List UInt8)} (h : RSt gE E O w rb b cs T st) (e : st' = st) : RSt gE E O w rb b cs T st' := e ▸ h
theorem tag_next {X : Option (List (Nat × List UInt8) × List UInt8)} {k : Nat} (hv : ∀ n r, (X.map (·.2)).bind rdUv = some (n, r) → n = k) {sp r : List UInt8} (h : (((X.map (·.2)).bind rdUv).map (·.2)).bind rdSp = some (sp, r)) :
    ∃ raw r0 r1, X = some (raw, r0) ∧ rdUv r0 = some (k, r1) ∧ rdSp r1 = some (sp, r) := by
  cases hX : X with
  | none => rw [hX] at h; cases h
  | some q =>
    rw [hX] at h hv
    simp only [Option.map_some, Option.bind_some] at h hv
    cases hx : rdUv q.2 with
    | none => rw [hx] at h; cases h
    | some a =>
      have := hv a.1 a.2 hx
      subst this
      rw [hx] at h
      exact ⟨q.1, q.2, a.2, rfl, hx, h⟩
theorem many_tag (st : Option (List UInt8)) (j : Nat) : st.bind (rdMany rdTag1 (j + 1)) = (st.bind (rdMany rdTag1 j)).bind fun q => (rdUv q.2).bind fun a => (rdSp a.2).bind fun c => some (q.1 ++ [(a.1, c.1)], c.2) := by
  rw [many_st]
  congr 1
  funext q
  have h := tag1_sp (some q.2)
  simp only [Option.bind_some] at h
  rw [h]
  cases rdUv q.2 with
  | none => rfl
  | some a =>
    simp only [Option.bind_some]
    cases rdSp a.2 <;> rfl
theorem many_tag_st (st : Option (List UInt8)) (j : Nat) : (st.bind (rdMany rdTag1 (j + 1))).map (·.2) = (((((st.bind (rdMany rdTag1 j)).map (·.2)).bind rdUv).map (·.2)).bind rdSp).map (·.2) := by
  rw [many_tag]
  cases st.bind (rdMany rdTag1 j) with
  | none => rfl
  | some q =>
    simp only [Option.bind_some, Option.map_some]
    cases rdUv q.2 with
    | none => rfl
    | some a =>
      simp only [Option.bind_some, Option.map_some]
      cases rdSp a.2 <;> rfl
theorem many_tag_in {st : Option (List UInt8)} {j k : Nat} (hv : ∀ n r, ((st.bind (rdMany rdTag1 j)).map (·.2)).bind rdUv = some (n, r) → n = k) {raw' : List (Nat × List UInt8)} {r : List UInt8} (h : st.bind (rdMany rdTag1 (j + 1)) = some (raw', r)) :
    ∃ raw r0 r1 sp, st.bind (rdMany rdTag1 j) = some (raw, r0) ∧ rdUv r0 = some (k, r1) ∧ rdSp r1 = some (sp, r) ∧ raw' = raw ++ [(k, sp)] ∧ ((((st.bind (rdMany rdTag1 j)).map (·.2)).bind rdUv).map (·.2)).bind rdSp = some (sp, r) := by
  rw [many_tag] at h
  cases hX : st.bind (rdMany rdTag1 j) with
  | none => rw [hX] at h; cases h
  | some q =>
    rw [hX] at h hv
    simp only [Option.map_some, Option.bind_some] at h hv ⊢
    cases hx : rdUv q.2 with
    | none => rw [hx] at h; cases h
    | some a =>
      have := hv a.1 a.2 hx
      subst this
      rw [hx] at h
      simp only [Option.bind_some, Option.map_some] at h ⊢
      cases hy : rdSp a.2 with
      | none => rw [hy] at h; cases h
      | some c =>
        rw [hy] at h
        simp only [Option.bind_some, Option.some.injEq, Prod.mk.injEq] at h
        refine ⟨q.1, q.2, a.2, c.1, rfl, hx, ?_, h.1.symm, ?_⟩
        · rw [← h.2]; exact hy
        · rw [← h.2]
theorem sp_len {bs sp r : List UInt8} (h : rdSp bs = some (sp, r)) : sp.length ≤ 4294967295 := by
  unfold rdSp at h
  obtain ⟨n, r', h1, h2⟩ := bind_some h
  have := (out_uv (r := r') h1).1
  have := (out_take h2).1
  omega
theorem Rep.openNew {ver : Int} {flex : Bool} {O : List Nat} {w : World} {n : Nat} (hn : w.heap.size ≤ n) : ∀ {s : Sch} {b o : Nat} {v : GV}, Rep TagMem O w ver flex s b o v → Rep TagMem (n :: O) w ver flex s b o v
  | .leaf k, b, o, v, h => by
    have h0 : ∀ p q x, w.cell? ⟨p, q, none⟩ = some x → p ∉ O → p ∉ n :: O := fun p q x h1 h2 h3 => by
      have := World.block_lt_of_cell? w _ h1
      simp only at this
      rcases List.mem_cons.1 h3 with rfl | h3
      · omega
      · exact h2 h3
    cases k <;> cases v <;> simp only [Rep, RepLeaf] at h ⊢ <;> try exact h
    · obtain ⟨⟨p, q, h1, h2, h3⟩, h4⟩ := h
      exact ⟨⟨p, q, h1, h0 p q _ h3 h2, h3⟩, h4⟩
    · obtain ⟨⟨x, h1, h2⟩, h4⟩ := h
      exact ⟨⟨x, h1, h2.openNew hn⟩, h4⟩
    · obtain ⟨⟨p, q, h1, h2, h3⟩, h4⟩ := h
      exact ⟨⟨p, q, h1, h0 p q _ h3 h2, h3⟩, h4⟩
  | .list nul z e, b, o, v, h => by
    cases v <;> simp only [Rep] at h ⊢ <;> try exact h
    obtain ⟨a, cap, h1, h2, h3, h4⟩ := h
    refine ⟨a, cap, h1, h2, h3, fun hne => ?_⟩
    obtain ⟨p, q, rfl, h5, h6, h7⟩ := h4 hne
    exact ⟨p, q, rfl, by simp only [List.mem_cons, not_or]; exact ⟨by omega, h5⟩, h6, fun i v hi => Rep.openNew hn (h7 i v hi)⟩
  | .opt e, b, o, v, h => by
    cases v <;> simp only [Rep] at h ⊢ <;> try exact h
    all_goals
      obtain ⟨p, q, h1, h5, h6, h7⟩ := h
      exact ⟨p, q, h1, by simp only [List.mem_cons, not_or]; exact ⟨by omega, h5⟩, h6, Rep.openNew hn h7⟩
  | .done, b, o, v, h => by cases v <;> simp only [Rep] at h ⊢
  | .tags off, b, o, v, h => by
    cases v <;> simp only [Rep] at h ⊢
    obtain ⟨m, k, D, h1, h2, h3, h4, h5, h6⟩ := h
    refine ⟨m, k, D, h1, h2, h3, ⟨h4.sorted, h4.small, h4.size, fun k bs hm => ?_, h4.only⟩, fun g hg hgO => ?_, h6⟩
    · obtain ⟨u1, u2, u3, u4⟩ := h4.there k bs hm
      exact ⟨u1, u2, u3, u4.openNew hn⟩
    · rcases List.mem_cons.1 hgO with e | hgO
      · subst hg
        have := World.ownsMap.lt h2
        omega
      · exact h5 g hg hgO
  | .cons off lo hi f rest, b, o, v, h => by
    cases v <;> simp only [Rep] at h ⊢ <;> try exact h
    exact ⟨fun hv => Rep.openNew hn (h.1 hv), Rep.openNew hn h.2⟩
  | .ktag off d f rest, b, o, v, h => by
    cases v <;> simp only [Rep] at h ⊢ <;> try exact h
    exact ⟨Rep.openNew hn h.1, Rep.openNew hn h.2.1, h.2.2⟩
theorem knd_one {f : Sch} {d : Int} (h : knd f d = true) : 1 ≤ top f := by
  cases f with
  | leaf k => cases k <;> simp [top]
  | list nul z e => simp [top]
  | _ => simp [knd] at h
theorem ksO_get {L : List (Nat × Int × Sch)} {k : Nat} {c : Nat × Int × Sch} (h : L[k]? = some c) : (ksO ver L)[k]? = some (dfl c.2.2 c.2.1, rd ver true c.2.2) := by
  unfold ksO
  rw [List.getElem?_map, h]
  rfl
theorem ksO_out {L : List (Nat × Int × Sch)} {k : Nat} (h : L.length ≤ k) : (ksO ver L)[k]? = none := by
  rw [List.getElem?_eq_none_iff]
  unfold ksO
  simpa using h
variable {L : List (Nat × Int × Sch)} {e : Nat} {O : List Nat} {rb b o T j k : Nat} {st : Option (List UInt8)} {w1 w4 w5 w6 : World} {cs1 cs2 cs6 : List Value} {m : Option Nat} {nn : Nat} {D : VD}
/-- What lies in the part's block, where neither its reader's own block nor a cell of it turns. -/
theorem rep_other {f : Sch} {p : Nat} {v : GV} {O : List Nat} {w w' : World} (h : Rep TagMem O w ver true f b p v) (hB : Blk w b cs2 T) (hB' : Blk w' b cs6 T) (hk : Keeps O w w') (hs : ∀ i, i < top f → cs6[p + i]? = cs2[p + i]?) : Rep TagMem O w' ver true f b p v :=
  Rep.move tags_keep hk h fun i hi => by rw [hB.cell, hB'.cell]; exact hs i hi
theorem kls_moved (I : KLs gE E ver L e O rb b o T st w1 cs1 j cs2 m nn D w4) (hk : Keeps [rb] w4 w6) (hB : Blk w4 b cs2 T) (hB' : Blk w6 b cs2 T) (hrbO : rb ∈ O) (hgm : ∀ g, m = some g → g ≠ rb ∧ g ≠ b) : KLs gE E ver L e O rb b o T st w1 cs1 j cs2 m nn D w6 := by
  have hkO : Keeps (mO m O) w4 w6 := hk.mono (by
    intro i hi
    simp only [List.mem_cons, List.not_mem_nil, or_false] at hi
    subst hi
    exact mO_sub hrbO)
  refine ⟨I.cell, I.map.keeps hk (fun g hg => by simpa using (hgm g hg).1), I.cnt, I.new, I.keeps.trans (hk.mono (by simp)), I.same, I.cells, fun raw r hraw => ?_⟩
  obtain ⟨vs, us, d1, d2, d3, d4, d5, d6, d7⟩ := I.done raw r hraw
  exact ⟨vs, us, d1, d2, fun k c v hc hv => rep_other (d3 k c v hc hv) hB hB' hkO fun _ _ => rfl, d4.keeps hkO, d5, d6, d7⟩
theorem kls_known {c : Nat × Int × Sch} {sp r x r'} (hap : Apart L e) (hkn : ∀ c ∈ L, knd c.2.2 c.2.1 = true) (I : KLs gE E ver L e O rb b o T st w1 cs1 j cs2 m nn D w4)
    (hv : ∀ n r, ((st.bind (rdMany rdTag1 j)).map (·.2)).bind rdUv = some (n, r) → n = k) (hc : L[k]? = some c) (hsp : ((((st.bind (rdMany rdTag1 j)).map (·.2)).bind rdUv).map (·.2)).bind rdSp = some (sp, r)) (hrd : rd ver true c.2.2 sp = some (x, r'))
    (hB4 : Blk w4 b cs2 T) (hst : RSt gE E (mO m O) w6 rb b cs6 T (some r)) (hk : Keeps [rb, b] w4 w6) (hso : SameOut cs2 cs6 (o + c.1) (o + (c.1 + top c.2.2))) (hrep : Rep TagMem (mO m O) w6 ver true c.2.2 b (o + c.1) x) (hgm : ∀ g, m = some g → g ≠ rb ∧ g ≠ b) :
    RSt gE E (mO m O) w6 rb b cs6 T ((st.bind (rdMany rdTag1 (j + 1))).map (·.2)) ∧ KLs gE E ver L e O rb b o T st w1 cs1 (j + 1) cs6 m nn D w6 := by
  have hcm := List.mem_of_getElem? hc
  have hkO : Keeps (mO m O) w4 w6 := hk.mono (by
    intro i hi
    simp only [List.mem_cons, List.not_mem_nil, or_false] at hi
    rcases hi with rfl | rfl
    · exact hst.rbO
    · exact hst.bO)
  have hfo : ∀ (k2 : Nat) (c2 : Nat × Int × Sch), L[k2]? = some c2 → k2 ≠ k → ∀ i, i < top c2.2.2 → cs6[o + c2.1 + i]? = cs2[o + c2.1 + i]? := by
    intro k2 c2 h2 hne i hi
    refine hso.out _ ?_
    rcases hap.fields k2 k c2 c hne h2 hc with h | h <;> omega
  refine ⟨rst_eq' hst ?_, ?_, I.map.keeps hk (fun g hg => by simpa using hgm g hg), by have := I.cnt; omega, I.new, I.keeps.trans hk, ksame_trans I.same (ksame_out hcm hso), ?_, ?_⟩
  · rw [many_tag_st, hsp]; rfl
  · refine (hso.out _ ?_).trans I.cell
    have := hap.tags c hcm
    omega
  · intro c2 hc2
    obtain ⟨k2, hk2⟩ := List.getElem?_of_mem hc2
    by_cases hne : k2 = k
    · subst hne
      rw [hc] at hk2
      cases hk2
      exact kcell_rep (hkn c hcm) hst.blk hrep (I.cells c hcm) hso.length
    · exact kcell_same (I.cells c2 hc2) hso.length (hfo k2 c2 hk2 hne)
  · intro raw' r2 hraw
    obtain ⟨raw, r0, r1, sp2, k1, k2, k3, rfl, k5⟩ := many_tag_in hv hraw
    rw [hsp] at k5
    cases k5
    obtain ⟨vs, us, d1, d2, d3, d4, d5, d6, d7⟩ := I.done raw r0 k1
    refine ⟨vs.set k x, us, ?_, by simpa using d2, ?_, d4.keeps hkO, d5, by have := nU_set L vs k x; omega, ?_⟩
    · rw [kfold_app, d1]
      simp only [Option.bind_some, kfold]
      unfold kstep
      simp only [ksO_get hc, hrd]
      rfl
    · intro k2 c2 v h2 hvv
      by_cases hne : k2 = k
      · subst hne
        rw [hc] at h2
        cases h2
        rw [List.getElem?_set_self (by rw [d2]; exact (List.getElem?_eq_some_iff.1 hc).1)] at hvv
        cases hvv
        exact hrep
      · rw [List.getElem?_set_ne (Ne.symm hne)] at hvv
        exact rep_other (d3 k2 c2 v h2 hvv) hB4 hst.blk hkO (hfo k2 c2 h2 hne)
    · intro k2 c2 h2 hu
      have hne : k2 ≠ k := fun h => hu (k, sp) (by simp) h.symm
      exact kfr_same (d7 k2 c2 h2 fun u hm => hu u (by simp [hm])) (hfo k2 c2 h2 hne)
theorem kls_new {g : Nat} {v3 : Value} (hap : Apart L e) (I : KLs gE E ver L e O rb b o T st w1 cs1 j cs2 m nn D w4)
    (hv : ∀ n r, ((st.bind (rdMany rdTag1 j)).map (·.2)).bind rdUv = some (n, r) → n = k) (hkL : L.length ≤ k) (hkk : k ≤ 4294967295) (hk : Keeps [rb] w4 w5) (hB4 : Blk w4 b cs2 T)
    (h5 : RSt gE E (mO m O) w5 rb b cs2 T (((((st.bind (rdMany rdTag1 j)).map (·.2)).bind rdUv).map (·.2)).bind rdSp |>.map (·.2)))
    (hsp : ∀ sp r, ((((st.bind (rdMany rdTag1 j)).map (·.2)).bind rdUv).map (·.2)).bind rdSp = some (sp, r) → RB (mO m O) w5 v3 sp)
    (hso : SetOut gE E O rb b T (o + e) m D k v3 nn ((((((st.bind (rdMany rdTag1 j)).map (·.2)).bind rdUv).map (·.2)).bind rdSp).map (·.2)) cs2 w5 w6 g) (hrbO : rb ∈ O) (hbO : b ∈ O) (hgm : ∀ g, m = some g → g ≠ rb ∧ g ≠ b) (hw : w1.heap.size ≤ w5.heap.size) :
    RSt gE E (mO (some g) O) w6 rb b (cs2.set (o + e) (.map (some g))) T ((st.bind (rdMany rdTag1 (j + 1))).map (·.2)) ∧ KLs gE E ver L e O rb b o T st w1 cs1 (j + 1) (cs2.set (o + e) (.map (some g))) (some g) (nn + 1) (D.put (kl32 k) (.held v3)) w6 := by
  have hlt : o + e < cs2.length := (List.getElem?_eq_some_iff.1 I.cell).1
  have hcut : ∀ c ∈ L, ∀ i, i < top c.2.2 → (cs2.set (o + e) (.map (some g)))[o + c.1 + i]? = cs2[o + c.1 + i]? := by
    intro c hc i hi
    refine List.getElem?_set_ne ?_
    have := hap.tags c hc
    omega
  have hk5 : Keeps (mO m O) w4 w5 := hk.mono (by
    intro i hi
    simp only [List.mem_cons, List.not_mem_nil, or_false] at hi
    subst hi
    exact mO_sub hrbO)
  have hk6 : Keeps (mO (some g) O) w5 w6 := hso.keeps.mono (by
    intro i hi
    simp only [List.mem_cons, List.not_mem_nil, or_false] at hi
    rcases hi with rfl | rfl
    · exact mem_mO.2 (.inl rfl)
    · exact mO_sub hbO)
  refine ⟨?_, List.getElem?_set_self hlt, hso.own, by have := I.cnt; omega, ?_, ?_, ksame_trans I.same ksame_set, fun c hc => kcell_same (I.cells c hc) (by simp) (hcut c hc), ?_⟩
  · rw [many_tag_st]; exact hso.rst
  · intro g' hg'
    cases hg'
    rcases hso.new with h | ⟨-, h⟩
    · exact I.new g h
    · omega
  · have h0 : Keeps [g, rb, b] w1 w6 := ((I.keeps.mono (by simp)).trans (hk.mono (by simp))).trans (hso.keeps.mono (by simp))
    refine h0.close ?_
    rcases hso.new with h | ⟨-, h⟩
    · exact I.new g h
    · omega
  · intro raw' r2 hraw
    obtain ⟨raw, r0, r1, sp2, k1, k2, k3, rfl, k5⟩ := many_tag_in hv hraw
    obtain ⟨vs, us, d1, d2, d3, d4, d5, d6, d7⟩ := I.done raw r0 k1
    refine ⟨vs, tagIns k sp2 us, ?_, d2, ?_, ?_, ?_, ?_, ?_⟩
    · rw [kfold_app, d1]
      simp only [Option.bind_some, kfold]
      unfold kstep
      simp only [ksO_out hkL]
      rfl
    · intro k2 c2 v h2 hvv
      have hcm := List.mem_of_getElem? h2
      have q1 : Rep TagMem (mO m O) w5 ver true c2.2.2 b (o + c2.1) v := rep_other (d3 k2 c2 v h2 hvv) hB4 h5.blk hk5 fun _ _ => rfl
      have q2 : Rep TagMem (mO (some g) O) w5 ver true c2.2.2 b (o + c2.1) v := by
        rcases hso.new with h | ⟨h, hg⟩
        · rw [← h]; exact q1
        · subst h; exact q1.openNew (by omega)
      exact rep_other q2 h5.blk hso.rst.blk hk6 (hcut c2 hcm)
    · have hV : View (mO (some g) O) w6 D us := by
        have h0 := d4.keeps hk5
        exact ⟨h0.sorted, h0.small, h0.size, fun k bs hm => by
          obtain ⟨u1, u2, u3, u4⟩ := h0.there k bs hm
          exact ⟨u1, u2, u3, hso.rb u4⟩, h0.only⟩
      exact hV.put I.map.isMap hkk (hso.rb (hsp _ _ k5))
    · intro u hu
      rcases tagIns_mem us k sp2 u hu with rfl | hu
      · exact sp_len k3
      · exact d5 u hu
    · rw [length_tagIns k sp2 us d4.sorted]
      split <;> omega
    · intro k2 c2 h2 hu
      exact kfr_same (d7 k2 c2 h2 fun u hm => hu u (by simp [hm])) (hcut c2 (List.mem_of_getElem? h2))
end
end Go.Proofs.YtmpilpgabelmiaaGreatDoor

/- Known tags, read: the loop over the tags of a part, walked. -/
namespace Go.Proofs.YtmpilpgabelmiaaGreatDoor
open Go Go.RowKit Go.Maps
set_option linter.unusedVariables false

section
variable {gE : Nat} {E : Value} {K : Slots} {N nt lo t : Nat} {ver : Int}
theorem rst_eq {O : List Nat} {w : World} {rb b T : Nat} {cs : List Value} {st st' : Option (List UInt8)} (h : RSt gE E O w rb b cs T st) (e : st = st') : RSt gE E O w rb b cs T st' := e ▸ h
/-- The code that reads the tags of a part's end. -/
def KLoop (gE : Nat) (E : Value) (N nt : Nat) (ver : Int) (K : Slots) (lo t s bp rs e : Nat) (L : List (Nat × Int × Sch)) (c : Code) : Prop :=
  ∀ (O : List Nat) (rb b o T : Nat) (a : Act) (w : World) (cs : List Value) (st : Option (List UInt8)) (Q : Exit → Act → World → Prop)
    (hN : a.tmps.size = nt) (hh : Holds ((s, .pointer (some ⟨b, o, none⟩)) :: (bp, .pointer (some ⟨rb, 0, none⟩)) :: K) a) (hst : RSt gE E O w rb b cs T st) (hF : ∀ c ∈ L, FreshD cs (o + c.1) c.2.1 c.2.2) (hFt : cs[o + e]? = some (.map none)) (hdup : DupOK L ((st.bind rdUv).map (·.2)))
    (hq : ∀ a' w' cs', RSt gE E O w' rb b cs' T ((st.bind (rdKn true (ksO ver L))).map (·.2)) → Fr N lo t nt a a' → Keeps [rb, b] w w' → KSame L e o cs cs' →
      (∀ v r, st.bind (rdKn true (ksO ver L)) = some (v, r) → ∃ vs us, v = kval vs us ∧ vs.length = L.length ∧ (∀ (k : Nat) (c : Nat × Int × Sch) (x : GV), L[k]? = some c → vs[k]? = some x → Rep TagMem O w' ver true c.2.2 b (o + c.1) x) ∧ TagMem O w' b (o + e) us ∧ nU L vs + us.length ≤ 4294967295) → Q .normal a' w')
    (hr : ∀ a' w', st.bind (rdKn true (ksO ver L)) = none → a'.tmps.size = nt → a'.defers = a.defers → aget a' rs = E → Keeps [rb, b] w w' → Q .ret a' w'),
    c.wp Tryz.prog Q a w
theorem kloop {s bp rs kx tk e i t0 t1 t2 t5 lo' t' B B1 B2 F r1 r2 r3 r4 r5 J1 J2 J3 J4 y1 y2 y3 y4 y5 y6 y7 y8 y9 y10 : Nat} {q1 q2 q3 q4 q5 q6 q7 q8 q9 q10 : String} {e1 e2 e3 e4 e5 e6 e7 e8 e9 e10 : Array Edge} {at1 at2 : Array TypeId} {L : List (Nat × Int × Sch)} {sw : Code}
    (heU : Enters Tryz.prog F) (hCU : UvC Tryz.prog F) (hk : KOK N lo t ((s, .int .i64 0) :: (bp, .int .i64 0) :: K)) (hD : Dims N nt lo t) (hD' : Dims N nt lo' t')
    (hd : t ≤ t0 ∧ t0 < nt ∧ t ≤ t1 ∧ t1 + 1 < nt ∧ t ≤ t2 ∧ t2 < nt ∧ t ≤ tk ∧ tk < nt ∧ t ≤ t5 ∧ t5 + 1 < nt) (hd2 : lo ≤ i ∧ i < N ∧ lo ≤ kx ∧ kx < N ∧ i ≠ kx ∧ i < lo' ∧ kx < lo' ∧ lo ≤ lo' ∧ t ≤ t' ∧ tk < t') (hBB : B ≠ B1 ∧ B ≠ B2)
    (hL : L ≠ []) (hkn : ∀ c ∈ L, knd c.2.2 c.2.1 = true) (hap : Apart L e) (hsw : SwC gE E N nt ver K lo' t' s bp rs kx tk e 0 L sw) :
    KLoop gE E N nt ver K lo t s bp rs e L (((Code.region r1 #[⟨some t0, .call { callee := .value (.func F), args := #[.tmp bp], argTypes := at1 }, y1, q1, e1, none⟩, ⟨some i, .assign (.tmp t0), y2, q2, e2, none⟩] false).seq (.block B (.loop
      (((Code.region r2 #[⟨some t1, .move (.tmp i), y3, q3, e3, none⟩, ⟨some (t1 + 1), .binOp .gtr J1 (.tmp t1) (.const (.int .u32 0)) J2, y4, q4, e4, none⟩] false).seq (.cond (.tmp (t1 + 1)) .skip (.exit B))).seq
        ((Code.block B1 ((Code.region r3 #[⟨some t2, .call { callee := .value (.func F), args := #[.tmp bp], argTypes := at2 }, y5, q5, e5, none⟩, ⟨some kx, .assign (.tmp t2), y6, q6, e6, none⟩] false).seq
          ((Code.region r4 #[⟨some tk, .move (.tmp kx), y7, q7, e7, none⟩] false).seq (.block B2 sw)))).seq
          (.region r5 #[⟨some t5, .move (.tmp i), y8, q8, e8, none⟩, ⟨some (t5 + 1), .binOp .sub J3 (.tmp t5) (.const (.int .u32 1)) J4, y9, q9, e9, none⟩, ⟨some i, .assign (.tmp (t5 + 1)), y10, q10, e10, none⟩] false))))))) := by
  intro O rb b o T a w cs st Q hN hh hst hF hFt hdup hq hr
  obtain ⟨d1, d2, d3, d4, d5, d6, d7, d8, d9, d10⟩ := hd
  obtain ⟨c1, c2, c3, c4, c5, c6, c7, c8, c9, c10⟩ := hd2
  have g1 := hD.dOne; have g2 := hD.dLo; have g3 := hD.dT; have g4 := hD.dN
  have hrbO := hst.rbO
  have hbO := hst.bO
  have hksl : (ksO ver L).map (·.1) = L.map fun c => dfl c.2.2 c.2.1 := by
    unfold ksO
    rw [List.map_map]
    rfl
  refine wp_seq (reg_uv heU hCU hN hh.tail.head hst hD ⟨d1, d2, c1, c2⟩ fun a1 w1 n hn hi1 hst1 hf1 hk1 hv hv0 _ => ?_)
  have hres := rdKn_st (ksO ver L) st n hv
  rw [hksl] at hres
  rw [hres] at hq hr
  clear hres
  generalize hst1e : (st.bind rdUv).map (·.2) = st1 at *
  have hh1 := hh.frR (kokR hk) hD hf1
  have hN1 := hf1.size.trans hN
  have hrbl := hst1.lt rb hrbO
  have hbl := hst1.lt b hbO
  have hgl : gE < w1.heap.size := World.block_lt_of_cell? w1 _ hst1.glob
  have inv0 : KLs gE E ver L e O rb b o T st1 w1 cs 0 cs none 0 (.map []) w1 := by
    refine ⟨hFt, rfl, Nat.le_refl _, (fun g h => nomatch h), Keeps.refl _ _, ⟨rfl, fun _ _ => rfl⟩, (fun c hc => (kcell_fresh (hkn c hc) (hF c hc)).1), fun raw r hraw => ?_⟩
    · have hr0 : raw = [] := List.eq_nil_of_length_eq_zero (many_len hraw)
      subst hr0
      refine ⟨L.map (fun c => dfl c.2.2 c.2.1), [], rfl, by simp, fun k c v hc hv => ?_, View.nil _ _, (fun u hu => nomatch hu), by rw [nU_dfl hkn]; simp, fun k c hc _ => (kcell_fresh (hkn c (List.mem_of_getElem? hc)) (hF c (List.mem_of_getElem? hc))).2⟩
      rw [List.getElem?_map, hc] at hv
      cases hv
      exact rep_dfl _ (hkn c (List.mem_of_getElem? hc)) hst1.blk (hF c (List.mem_of_getElem? hc))
  refine wp_block ?_
  refine wp_loop (fun a' w' => ∃ j cs' m nn D, j ≤ n ∧ Fr N lo t nt a1 a' ∧ aget a' i = .int .u32 ((n - j : Nat) : Int) ∧ RSt gE E (mO m O) w' rb b cs' T ((st1.bind (rdMany rdTag1 j)).map (·.2)) ∧ KLs gE E ver L e O rb b o T st1 w1 cs j cs' m nn D w') (fun a' _ => (intOf (aget a' i)).toNat) ⟨0, cs, none, 0, .map [], Nat.zero_le _, Fr.refl .., by simpa using hi1, rst_eq hst1 (by cases st1 <;> rfl), inv0⟩ ?_
  rintro a2 w2 ⟨j, cs2, m, nn, D, hjn, hf2, hsi, hr2, I⟩
  have hN2 : a2.tmps.size = nt := hf2.size.trans hN1
  have hh2 := hh1.frR (kokR hk) hD hf2
  have hgm : ∀ g, m = some g → g ≠ rb ∧ g ≠ b ∧ g ≠ gE := fun g hg => by have := I.new g hg; exact ⟨by omega, by omega, by omega⟩
  have hgm2 : ∀ g, m = some g → g ≠ rb ∧ g ≠ b := fun g hg => ⟨(hgm g hg).1, (hgm g hg).2.1⟩
  refine wp_seq (wp_seq (wp_reg ?_))
  refine wl_move hsi ?_
  refine wl_bin (r := .bool (decide ((0 : Int) < ((n - j : Nat) : Int)))) (x := .int .u32 ((n - j : Nat) : Int)) (aget_put_same _ _ _ (by omega)) (eqGuard_at_int ..) (by simp [binOp, Op.intCmp]) ?_
  refine wpList_nil ?_
  generalize ha3 : Act.put (Act.put a2 (some t1) (.int .u32 ((n - j : Nat) : Int))) (some (t1 + 1)) (.bool (decide ((0 : Int) < ((n - j : Nat) : Int)))) = a3
  have hx3 : aget a3 (t1 + 1) = .bool (decide ((0 : Int) < ((n - j : Nat) : Int))) := by rw [← ha3]; exact aget_put_same _ _ _ (by simp only [size_put]; omega)
  have hf3 : Fr N lo t nt a2 a3 := by rw [← ha3]; exact ((Fr.refl N lo t nt a2).put _ _ (by omega)).put _ _ (by omega)
  have hi3 : aget a3 i = .int .u32 ((n - j : Nat) : Int) := by rw [← ha3, aget_put_other _ _ _ _ (by omega), aget_put_other _ _ _ _ (by omega)]; exact hsi
  clear ha3
  have hN3 : a3.tmps.size = nt := hf3.size.trans hN2
  have hh3 := hh2.frR (kokR hk) hD hf3
  by_cases hlt : j < n
  · have hdec : decide ((0 : Int) < ((n - j : Nat) : Int)) = true := by simp; omega
    rw [hdec] at hx3
    refine wp_cond_true hx3 (wp_skip ?_)
    refine wp_seq (wp_block (wp_seq (reg_uv heU hCU hN3 hh3.tail.head hr2 hD ⟨d5, d6, c3, c4⟩ fun a4 w4 k hkk hkx4 hst4 hf4 hk4 hv4 hv40 hsa4 => ?_)))
    have hN4 := hf4.size.trans hN3
    have hh4 := hh3.frR (kokR hk) hD hf4
    have hi4 : aget a4 i = .int .u32 ((n - j : Nat) : Int) := (hsa4 i c5 c2).trans hi3
    simp only [Exit.then]
    refine wp_seq (wp_reg (wl_move hkx4 (wpList_nil ?_)))
    have hf5 : Fr N lo t nt a4 (a4.put (some tk) (.int .u32 (k : Nat))) := (Fr.refl N lo t nt a4).put _ _ (by omega)
    have htk5 : aget (a4.put (some tk) (.int .u32 (k : Nat))) tk = .int .u32 (k : Nat) := aget_put_same _ _ _ (by omega)
    have hkx5 : aget (a4.put (some tk) (.int .u32 (k : Nat))) kx = .int .u32 (k : Nat) := (aget_put_other _ _ _ _ (by omega)).trans hkx4
    have hi5 : aget (a4.put (some tk) (.int .u32 (k : Nat))) i = .int .u32 ((n - j : Nat) : Int) := (aget_put_other _ _ _ _ (by omega)).trans hi4
    generalize (a4.put (some tk) (.int .u32 (k : Nat))) = a5 at *
    have hN5 := hf5.size.trans hN4
    have hh5 := hh4.frR (kokR hk) hD hf5
    have hf15 : Fr N lo t nt a1 a5 := ((hf2.trans hf3).trans hf4).trans hf5
    have hM4 : MapAt w4 m nn D := I.map.keeps hk4 (fun g hg => by simpa using (hgm g hg).1)
    have hB4 : Blk w4 b cs2 T := hst4.blk
    have I4 := kls_moved I hk4 hr2.blk hB4 hrbO hgm2
    have hk14 : Keeps [rb, b] w1 w4 := I4.keeps
    have hnext : ∀ (a6 : Act) (w6 : World) (cs6 : List Value) (m6 : Option Nat) (nn6 : Nat) (D6 : VD) (Q2 : Exit → Act → World → Prop), Fr N lo' t' nt a5 a6 → RSt gE E (mO m6 O) w6 rb b cs6 T ((st1.bind (rdMany rdTag1 (j + 1))).map (·.2)) → KLs gE E ver L e O rb b o T st1 w1 cs (j + 1) cs6 m6 nn6 D6 w6 →
        (∀ a', ((∃ j cs' m nn D, j ≤ n ∧ Fr N lo t nt a1 a' ∧ aget a' i = .int .u32 ((n - j : Nat) : Int) ∧ RSt gE E (mO m O) w6 rb b cs' T ((st1.bind (rdMany rdTag1 j)).map (·.2)) ∧ KLs gE E ver L e O rb b o T st1 w1 cs j cs' m nn D w6) ∧ (intOf (aget a' i)).toNat < (intOf (aget a2 i)).toNat) → Q2 .normal a' w6) →
        (Code.region r5 #[⟨some t5, .move (.tmp i), y8, q8, e8, none⟩, ⟨some (t5 + 1), .binOp .sub J3 (.tmp t5) (.const (.int .u32 1)) J4, y9, q9, e9, none⟩, ⟨some i, .assign (.tmp (t5 + 1)), y10, q10, e10, none⟩] false).wp Tryz.prog Q2 a6 w6 := by
      intro a6 w6 cs6 m6 nn6 D6 Q2 hf6 hr6 I6 hQ
      have hN6 := hf6.size.trans hN5
      have hi6 : aget a6 i = .int .u32 ((n - j : Nat) : Int) := (hf6.same i (by omega) (.inl c6)).trans hi5
      refine wp_reg (wl_move hi6 ?_)
      refine wl_bin (r := .int .u32 ((n - (j + 1) : Nat) : Int)) (x := .int .u32 ((n - j : Nat) : Int)) (aget_put_same _ _ _ (by omega)) (eqGuard_at_int ..) ?_ ?_
      · have e : IntKind.u32.wrap (((n - j : Nat) : Int) - 1) = ((n - (j + 1) : Nat) : Int) := by
          rw [IntKind.wrap_u32]
          omega
        simp [binOp, Op.intArith, e]
      refine wl_assign (aget_put_same _ _ _ (by simp only [size_put]; omega)) ?_
      refine wpList_nil (hQ _ ⟨⟨j + 1, cs6, m6, nn6, D6, hlt, ?_, aget_put_same _ _ _ (by simp only [size_put]; omega), hr6, I6⟩, ?_⟩)
      · exact (hf15.trans (hf6.mono c8 c9)).trans ((((Fr.refl N lo t nt a6).put _ _ (by omega)).put _ _ (by omega)).put _ _ (by omega))
      · rw [aget_put_same _ _ _ (by simp only [size_put]; omega), hsi]
        simp only [intOf]
        omega
    simp only [Exit.then]
    refine wp_block ?_
    refine hsw O rb b o T a5 w4 cs2 _ _ k m nn D hN5 hh5 htk5 hkx5 (Nat.zero_le _) hkk hst4 ?_ I.cell hM4 ?_ hgm ?_ ?_ ?_
    · intro j2 c hc hkj
      obtain rfl : k = j2 := by omega
      refine kpre_of (I4.cells c (List.mem_of_getElem? hc)) ?_
      cases hX : st1.bind (rdMany rdTag1 j) with
      | none => exact .inl rfl
      | some q =>
        simp only [Option.map_some, Option.bind_some]
        cases hy : rdUv q.2 with
        | none => exact .inl rfl
        | some z =>
          refine .inr fun hl => ?_
          have hz : z.1 = k := hv4 z.1 z.2 (by rw [hX]; exact hy)
          obtain ⟨vs, us, -, -, -, -, -, -, d7⟩ := I4.done q.1 q.2 hX
          exact d7 k c hc (hdup j q.1 q.2 k z.2 c hX (by rw [← hz]; exact hy) hc hl) hl
    · have := I.cnt
      unfold maxLen
      omega
    · intro j2 c hc hkj a6 w6 cs6 sp r x r' k1 k2 k3 k4 k5 k6 k7
      obtain rfl : k = j2 := by omega
      obtain ⟨u1, u2⟩ := kls_known hap hkn I4 hv4 hc k1 k2 hB4 k3 k5 k6 k7 hgm2
      simp only [Exit.then, Exit.inBlock]
      exact hnext a6 w6 cs6 m nn D _ k4 u1 u2 fun a' ha' => by simpa only [Exit.then, Exit.inBlock] using ha'
    · intro j2 c hc hkj a6 w6 k1 k2 k3 k4 k5
      obtain rfl : k = j2 := by omega
      simp only [Exit.then, Exit.inBlock]
      refine hr a6 w6 ?_ k2 (k3.trans (hf15.defers.trans hf1.defers)) k4 ((hk1.mono (by simp)).trans (hk14.trans k5))
      cases hX : st1.bind (rdMany rdTag1 n) with
      | none => rfl
      | some q =>
        simp only [Option.bind_some]
        obtain ⟨r', hp⟩ := many_prefix hX (show j + 1 ≤ n by omega)
        obtain ⟨raw, r0, r1, sp, v1, v2, v3, v4, v5⟩ := many_tag_in hv4 hp
        obtain ⟨vs, us, z1, -⟩ := I4.done raw r0 v1
        have : kfold (ksO ver L) (q.1.take (j + 1)) (L.map (fun c => dfl c.2.2 c.2.1), []) = none := by
          rw [v4, kfold_app, z1]
          simp only [Option.bind_some, kfold]
          unfold kstep
          simp only [ksO_get hc, k1 sp _ v5]
          rfl
        rw [kfold_none this]
        rfl
    · intro hl a6 w5 w6 g v3 k1 k2 k3 k4 k5
      have hl' : L.length ≤ k := by omega
      obtain ⟨u1, u2⟩ := kls_new hap I4 hv4 hl' hkk k1 hB4 k2 k3 k4 hrbO hbO hgm2 (by have := hk14.size; have := k1.size; omega)
      simp only [Exit.then, Exit.inBlock]
      exact hnext a6 w6 _ (some g) _ _ _ k5 u1 u2 fun a' ha' => by simpa only [Exit.then, Exit.inBlock] using ha'
  · have hdec : decide ((0 : Int) < ((n - j : Nat) : Int)) = false := by simp; omega
    rw [hdec] at hx3
    obtain rfl : j = n := by omega
    refine wp_cond_false hx3 (wp_exit ?_)
    simp only [Exit.then, Exit.inBlock, if_true]
    have hfin : ∀ q, st1.bind (rdMany rdTag1 j) = some q → ∃ vs us, kfold (ksO ver L) q.1 (L.map (fun c => dfl c.2.2 c.2.1), []) = some (vs, us) := fun q hq => by
      obtain ⟨vs, us, z1, -⟩ := I.done q.1 q.2 hq
      exact ⟨vs, us, z1⟩
    refine hq a3 w2 cs2 (rst_eq (hr2.shut hrbO hbO) ?_) ((hf1.trans hf2).trans hf3) ((hk1.mono (by simp)).trans I.keeps) I.same ?_
    · cases hX : st1.bind (rdMany rdTag1 j) with
      | none => rfl
      | some q =>
        obtain ⟨vs, us, z1⟩ := hfin q hX
        simp only [Option.bind_some, Option.map_some, z1]
    · intro v r hv'
      cases hX : st1.bind (rdMany rdTag1 j) with
      | none => rw [hX] at hv'; cases hv'
      | some q =>
        obtain ⟨vs, us, z1, z2, z3, z4, z5, z6, z7⟩ := I.done q.1 q.2 hX
        rw [hX] at hv'
        simp only [Option.bind_some, z1, Option.map_some, Option.some.injEq, Prod.mk.injEq] at hv'
        refine ⟨vs, us, hv'.1.symm, z2, fun k c x hc hx => (z3 k c x hc hx).mono tags_mono fun k hk => mO_sub hk, ⟨m, nn, D, ?_, I.map, ?_, view_shut z4, ?_, ?_, z5⟩, by omega⟩
        · rw [hr2.blk.cell]; exact I.cell
        · have := I.cnt; omega
        · intro g hg hgO
          have h1 := I.new g hg
          have h2 := hst1.lt g hgO
          omega
        · omega
end
end Go.Proofs.YtmpilpgabelmiaaGreatDoor

/- Known tags, read: the end of a part with known tags, whole. -/
namespace Go.Proofs.YtmpilpgabelmiaaGreatDoor
open Go Go.RowKit Go.Maps
set_option linter.unusedVariables false

theorem kmMix : Tryz.prog.follows .mixedOrders = true := by kernel_rfl
theorem eqGuard_nil (J t : Nat) : ∀ x, eqGuard .neq J (.tmp t) (.const .nilIface) x .nilIface = pure () := by
  intro x
  cases x <;> simp [eqGuard]
theorem kp_ks (ver : Int) : ∀ f : Sch, kp ver true f = ksO ver (chainO f)
  | .ktag off d f rest => by
    have := kp_ks ver rest
    simp only [kp, chainO, ksO, List.map_cons] at this ⊢
    rw [this]
  | .leaf _ => rfl
  | .list _ _ _ => rfl
  | .opt _ => rfl
  | .done => rfl
  | .tags _ => rfl
  | .cons _ _ _ _ _ => rfl
theorem kp_dfl (ver : Int) (flex : Bool) : ∀ f : Sch, (kp ver flex f).map (·.1) = (chainO f).map fun c => dfl c.2.2 c.2.1
  | .ktag off d f rest => by
    have := kp_dfl ver flex rest
    simp only [kp, chainO, List.map_cons] at this ⊢
    rw [this]
  | .leaf _ => rfl
  | .list _ _ _ => rfl
  | .opt _ => rfl
  | .done => rfl
  | .tags _ => rfl
  | .cons _ _ _ _ _ => rfl
theorem kn_chain (us : List (Nat × List UInt8)) : ∀ {f : Sch} {vs : List GV}, isChain f = true → vs.length = (chainO f).length → kn f (kval vs us) = nU (chainO f) vs + us.length
  | .ktag off d f rest, [], _, hl => by simp [chainO] at hl
  | .ktag off d f rest, v :: vs, hc, hl => by
    simp only [isChain] at hc
    simp only [kn, kval, chainO, nU, kn_chain us hc (by simpa [chainO] using hl), Nat.add_assoc]
  | .tags off, [], _, _ => by simp [kn, kval, chainO, nU]
  | .tags off, _ :: _, _, hl => by simp [chainO] at hl
  | .leaf _, _, hc, _ => by cases hc
  | .list _ _ _, _, hc, _ => by cases hc
  | .opt _, _, hc, _ => by cases hc
  | .done, _, hc, _ => by cases hc
  | .cons _ _ _ _ _, _, hc, _ => by cases hc
/-- A part's end, all of whose known tags have been read. -/
theorem rep_chain {RT : RTags} {O : List Nat} {w : World} {ver : Int} {flex : Bool} {b o : Nat} {us : List (Nat × List UInt8)} : ∀ {f : Sch} {vs : List GV}, isChain f = true → vs.length = (chainO f).length →
    (∀ (k : Nat) (c : Nat × Int × Sch) (x : GV), (chainO f)[k]? = some c → vs[k]? = some x → Rep RT O w ver flex c.2.2 b (o + c.1) x) → RT O w b (o + endO f) us → nU (chainO f) vs + us.length ≤ 4294967295 → Rep RT O w ver flex f b o (kval vs us)
  | .ktag off d f rest, [], _, hl, _, _, _ => by simp [chainO] at hl
  | .ktag off d f rest, v :: vs, hc, hl, h, hu, hn => by
    have e := kn_chain us (f := .ktag off d f rest) (vs := v :: vs) hc hl
    simp only [isChain] at hc
    refine ⟨h 0 (off, d, f) v rfl rfl, rep_chain hc (by simpa [chainO] using hl) (fun k c x h1 h2 => h (k + 1) c x (by simpa [chainO] using h1) (by simpa using h2)) hu ?_, ?_⟩
    · simp only [chainO, nU] at hn
      omega
    · have e2 : kval (v :: vs) us = .cons v (kval vs us) := rfl
      rw [← e2, e]
      exact hn
  | .tags off, [], _, _, _, hu, _ => hu
  | .tags off, _ :: _, _, hl, _, _, _ => by simp [chainO] at hl
  | .leaf _, _, hc, _, _, _, _ => by cases hc
  | .list _ _ _, _, hc, _, _, _, _ => by cases hc
  | .opt _, _, hc, _, _, _, _ => by cases hc
  | .done, _, hc, _, _, _, _ => by cases hc
  | .cons _ _ _ _ _, _, hc, _, _, _, _ => by cases hc
theorem fresh_chain {cs : List Value} {o : Nat} : ∀ {f : Sch}, isChain f = true → Fresh cs o f → (∀ c ∈ chainO f, FreshD cs (o + c.1) c.2.1 c.2.2) ∧ cs[o + endO f]? = some (.map none)
  | .ktag off d f rest, hc, h => by
    simp only [isChain] at hc
    obtain ⟨h1, h2⟩ := fresh_chain hc h.2
    refine ⟨fun c hm => ?_, h2⟩
    simp only [chainO, List.mem_cons] at hm
    rcases hm with rfl | hm
    · exact h.1
    · exact h1 c hm
  | .tags off, _, h => ⟨fun c hm => (nomatch hm), h⟩
  | .leaf _, hc, _ => by cases hc
  | .list _ _ _, hc, _ => by cases hc
  | .opt _, hc, _ => by cases hc
  | .done, hc, _ => by cases hc
  | .cons _ _ _ _ _, hc, _ => by cases hc
theorem top_chain : ∀ {f : Sch}, isChain f = true → endO f < top f ∧ ∀ c ∈ chainO f, c.1 + top c.2.2 ≤ top f
  | .ktag off d f rest, hc => by
    simp only [isChain] at hc
    obtain ⟨h1, h2⟩ := top_chain hc
    simp only [endO, top, chainO]
    refine ⟨by omega, fun c hm => ?_⟩
    simp only [List.mem_cons] at hm
    rcases hm with rfl | hm
    · simp only; omega
    · have := h2 c hm; omega
  | .tags off, _ => by simp [endO, top, chainO]
  | .leaf _, hc => by cases hc
  | .list _ _ _, hc => by cases hc
  | .opt _, hc => by cases hc
  | .done, hc => by cases hc
  | .cons _ _ _ _ _, hc => by cases hc
theorem low_chain : ∀ {f : Sch} {n : Nat}, isChain f = true → ord n f = true → n ≤ endO f ∧ ∀ c ∈ chainO f, n ≤ c.1 ∨ (c.1 ≤ 1 ∧ c.1 + top c.2.2 ≤ lowTop f)
  | .ktag off d f rest, n, hc, ho => by
    simp only [isChain] at hc
    simp only [ord, Bool.and_eq_true, Bool.or_eq_true, decide_eq_true_eq] at ho
    obtain ⟨h1, h2⟩ := low_chain hc ho.2
    simp only [endO, lowTop, chainO]
    refine ⟨h1, fun c hm => ?_⟩
    simp only [List.mem_cons] at hm
    rcases hm with rfl | hm
    · rcases ho.1 with h | h
      · exact .inl h
      · refine .inr ⟨h, ?_⟩
        simp only [if_pos h]
        omega
    · rcases h2 c hm with h | h
      · exact .inl h
      · exact .inr (by omega)
  | .tags off, n, _, ho => by
    simp only [ord, decide_eq_true_eq] at ho
    exact ⟨ho, fun c hm => (nomatch hm)⟩
  | .leaf _, _, hc, _ => by cases hc
  | .list _ _ _, _, hc, _ => by cases hc
  | .opt _, _, hc, _ => by cases hc
  | .done, _, hc, _ => by cases hc
  | .cons _ _ _ _ _, _, hc, _ => by cases hc

/-- The fields of the known tags and the unknown tags lie apart: to be decided. -/
def apartB (L : List (Nat × Int × Sch)) (e : Nat) : Bool :=
  (L.all fun c => decide (e < c.1) || decide (c.1 + top c.2.2 ≤ e)) && (List.range L.length).all fun i => (List.range L.length).all fun j => i == j || match L[i]?, L[j]? with
    | some a, some b => decide (a.1 + top a.2.2 ≤ b.1) || decide (b.1 + top b.2.2 ≤ a.1)
    | _, _ => true
theorem apart_of {L : List (Nat × Int × Sch)} {e : Nat} (h : apartB L e = true) : Apart L e := by
  unfold apartB at h
  rw [Bool.and_eq_true, List.all_eq_true, List.all_eq_true] at h
  refine ⟨fun i j ci cj hij hi hj => ?_, fun c hc => ?_⟩
  · have hi' := (List.getElem?_eq_some_iff.1 hi).1
    have hj' := (List.getElem?_eq_some_iff.1 hj).1
    have h2 := h.2 i (List.mem_range.2 hi')
    rw [List.all_eq_true] at h2
    have h3 := h2 j (List.mem_range.2 hj')
    rw [hi, hj] at h3
    simpa [hij] using h3
  · simpa using h.1 c hc
theorem freshD_of {cs : List Value} {o : Nat} {d : Int} {f : Sch} (h : (cs.drop o).take (dcells f d).length = dcells f d) : FreshD cs o d f := by
  intro i u hi
  have hl := (List.getElem?_eq_some_iff.1 hi).1
  rw [← h, List.getElem?_take_of_lt hl, List.getElem?_drop] at hi
  exact hi
section
variable {gE : Nat} {E : Value} {K : Slots} {N nt lo t : Nat} {ver : Int} {flex : Bool}
/-- The code that reads a part's end. -/
def RdT (gE : Nat) (E : Value) (N nt : Nat) (ver : Int) (flex : Bool) (K : Slots) (lo t s bp rs : Nat) (c : Code) (f : Sch) : Prop :=
  ∀ (O : List Nat) (rb b o T : Nat) (a : Act) (w : World) (cs : List Value) (st : Option (List UInt8)) (Q : Exit → Act → World → Prop),
    a.tmps.size = nt → Holds ((s, .pointer (some ⟨b, o, none⟩)) :: (bp, .pointer (some ⟨rb, 0, none⟩)) :: K) a → RSt gE E O w rb b cs T st → Fresh cs o f → KD ver flex f st →
    (∀ a' w' cs', RSt gE E O w' rb b cs' T ((st.bind (rd ver flex f)).map (·.2)) → Fr N lo t nt a a' → Keeps [rb, b] w w' → KSame (chainO f) (endO f) o cs cs' → (∀ v r, st.bind (rd ver flex f) = some (v, r) → Rep TagMem O w' ver flex f b o v) → Q .normal a' w') →
    (∀ a' w', st.bind (rd ver flex f) = none → a'.tmps.size = nt → a'.defers = a.defers → aget a' rs = E → Keeps [rb, b] w w' → Q .ret a' w') → c.wp Tryz.prog Q a w
theorem rdT_ktags {s bp rs sf t0 r0 y1 off : Nat} {d : Int} {q1 : String} {g1 : Array Edge} {c : Code} {f rest : Sch} (hk : KOK N lo t ((s, .int .i64 0) :: (bp, .int .i64 0) :: K)) (hf : (sf, Value.bool flex) ∈ K) (hD : Dims N nt lo t) (hd : t ≤ t0 ∧ t0 < nt) (hch : isChain rest = true)
    (hkn : ∀ c ∈ chainO (.ktag off d f rest), knd c.2.2 c.2.1 = true) (h : flex = true → KLoop gE E N nt ver K lo t s bp rs (endO rest) (chainO (.ktag off d f rest)) c) :
    RdT gE E N nt ver flex K lo t s bp rs ((Code.region r0 #[⟨some t0, .move (.tmp sf), y1, q1, g1, none⟩] false).seq (.cond (.tmp t0) c .skip)) (.ktag off d f rest) := by
  intro O rb b o T a w cs st Q hN hh hst hF hkd hq hr
  have hch' : isChain (.ktag off d f rest) = true := hch
  obtain ⟨hF1, hF2⟩ := fresh_chain hch' hF
  refine wp_seq (reg_flag (x0 := nt) (lo := lo) hN (hh _ (List.mem_cons_of_mem _ (List.mem_cons_of_mem _ hf))) ⟨hD.dT, hd.1, hd.2, hD.dLo⟩ fun a1 hf1 hx => ?_)
  have hh1 := hh.frR (kokR hk) hD hf1
  have hN1 := hf1.size.trans hN
  have e : rd ver flex (.ktag off d f rest) = rdKn flex (kp ver flex (.ktag off d f rest)) := rfl
  rw [e] at hq hr
  simp only [Exit.then]
  cases flex
  · refine wp_cond_false hx (wp_skip (hq a1 w cs ?_ hf1 (Keeps.refl _ _) ⟨rfl, fun _ _ => rfl⟩ fun v r hv => ?_))
    · cases st <;> exact hst
    · cases st with
      | none => cases hv
      | some bs =>
        unfold rdKn at hv
        simp only [Option.bind_some, Bool.false_eq_true, if_false, Pr.pure, Option.some.injEq, Prod.mk.injEq] at hv
        obtain ⟨rfl, rfl⟩ := hv
        refine rep_chain hch' (by rw [kp_dfl]; simp) (fun k c x h1 h2 => ?_) (tags_zero _ _ _ _ (hst.blk.cell_some hF2)) (by rw [kp_dfl, nU_dfl hkn]; simp)
        rw [kp_dfl, List.getElem?_map, h1] at h2
        cases h2
        exact rep_dfl _ (hkn c (List.mem_of_getElem? h1)) hst.blk (hF1 c (List.mem_of_getElem? h1))
  · refine wp_cond_true hx ?_
    rw [kp_ks] at hq hr
    refine h rfl O rb b o T a1 w cs st Q hN1 hh1 hst hF1 hF2 (hkd rfl) ?_ ?_
    · intro a2 w2 cs2 k1 k2 k3 k4 k5
      refine hq a2 w2 cs2 k1 (hf1.trans k2) k3 k4 fun v r hv => ?_
      obtain ⟨vs, us, rfl, u2, u3, u4, u5⟩ := k5 v r hv
      exact rep_chain hch' u2 u3 u4 u5
    · intro a2 w2 k1 k2 k3 k4 k5
      exact hr a2 w2 k1 k2 (k3.trans hf1.defers) k4 k5
/-- The end of a message with known tags. -/
theorem rdR_endK {s bp rs n t1 F r ty1 ty2 : Nat} {p1 p2 : String} {e1 e2 : Array Edge} {at_ : Array TypeId} {c : Code} {f : Sch} (hk : KOK N lo t ((s, .int .i64 0) :: (bp, .int .i64 0) :: K)) (hD : Dims N nt lo t) (he : Enters Tryz.prog F) (hC : CompleteC Tryz.prog F gE E) (hd : t1 < nt ∧ rs < nt) (hch : isChain f = true) (ho : ord n f = true) (hlow : ∀ c ∈ chainO f, 1 ≤ c.1)
    (h : RdT gE E N nt ver flex K lo t s bp rs c f) :
    RdR TagMem Tryz.prog N nt gE E ver flex K lo t s bp rs (c.seq ((Code.region r #[⟨some t1, .call { callee := .value (.func F), args := #[.tmp bp], argTypes := at_ }, ty1, p1, e1, none⟩, ⟨some rs, .assign (.tmp t1), ty2, p2, e2, none⟩] false).seq .ret)) n f := by
  intro O rb b o T a w cs st Q hN hh hst hF hkd hq
  refine wp_seq (h O rb b o T a w cs st _ hN hh hst hF hkd (fun a1 w1 cs1 k1 k2 k3 k4 k5 => ?_) (fun a1 w1 k1 k2 k3 k4 k5 => hq a1 w1 k2 k3 (by rw [k1]; exact k4) k5 (fun v r h => by rw [k1] at h; cases h)))
  refine reg_complete he hC (k2.size.trans hN) (hh.frR (kokR hk) hD k2).tail.head k1.rdr k1.glob hd fun a2 j1 j2 j3 => hq a2 w1 j1 (j2.trans k2.defers) ?_ k3 fun v r hv => ⟨k5 v r hv, cs1, k1.blk, k4.length, fun i hi => k4.same i ?_⟩
  · rw [Option.isSome_map] at j3
    exact j3
  · obtain ⟨u1, u2⟩ := top_chain hch
    obtain ⟨v1, v2⟩ := low_chain hch ho
    rintro (h | ⟨c, hc, h1, h2⟩)
    · omega
    · have x1 := u2 c hc
      have x2 := hlow c hc
      rcases v2 c hc with x | x <;> omega
/-- The end of a part whose known tags' fields lie behind all others. -/
theorem rdS_endK {s bp rs n : Nat} {c : Code} {f : Sch} (hch : isChain f = true) (ho : ord n f = true) (hkl : noKL f = true) (hlow : ∀ c ∈ chainO f, n ≤ c.1) (h : RdT gE E N nt ver flex K lo t s bp rs c f) : RdS TagMem Tryz.prog N nt gE E ver flex K lo t s bp rs c n f := by
  intro O rb b o T a w cs st Q hN hh hst hF hq hr
  refine h O rb b o T a w cs st Q hN hh hst hF (KD.of hkl st) (fun a' w' cs' k1 k2 k3 k4 k5 => hq a' w' cs' k1 k2 k3 ⟨k4.length, fun i hi => k4.same i ?_⟩ k5) hr
  obtain ⟨u1, u2⟩ := top_chain hch
  obtain ⟨v1, v2⟩ := low_chain hch ho
  rintro (h | ⟨c, hc, h1, h2⟩)
  · omega
  · have x1 := u2 c hc
    have x2 := hlow c hc
    omega
end
section
variable {RT : RTags} {P : Program} {N nt gE : Nat} {E : Value} {K : Slots} {lo t : Nat} {ver : Int} {flex : Bool}
/-- A uuid, read into its field, with what follows it. -/
theorem rdFK_uuid {s bp rs v t1 t2 F T' k U off r r' y1 y2 y3 y4 y5 y6 y7 y8 : Nat} {q1 q2 q3 q4 q5 q6 q7 q8 : String} {g1 g2 g3 g4 g5 g6 g7 g8 : Array Edge} {at_ : Array TypeId}
    (hk : KOK N lo t ((s, .int .i64 0) :: (bp, .int .i64 0) :: K)) (hT : FieldAt P T' k off) (hU : ManyCells P U 16) (he : Enters P F) (hC : UuidRd P F) (hD : Dims N nt lo t) (hd : t ≤ t1 ∧ t1 < nt ∧ lo ≤ v ∧ v < N ∧ t ≤ t2 ∧ t2 + 3 < nt ∧ bp < lo ∧ s < lo) :
    RdFK RT P N nt gE E ver flex K lo t s bp rs (fun R => (Code.region r #[⟨some t1, .call { callee := .value (.func F), args := #[.tmp bp], argTypes := at_ }, y1, q1, g1, none⟩, ⟨some v, .alloc U, y2, q2, g2, none⟩, ⟨none, .store U (.tmp v) (.tmp t1), y3, q3, g3, none⟩] false).seq
      ((Code.region r' #[⟨some t2, .move (.tmp s), y4, q4, g4, none⟩, ⟨some (t2 + 1), .load U (.tmp v), y5, q5, g5, none⟩, ⟨some (t2 + 2), .nilCheck (.tmp t2), y6, q6, g6, none⟩, ⟨some (t2 + 3), .fieldAddr T' (.tmp (t2 + 2)) k, y7, q7, g7, none⟩,
        ⟨none, .store U (.tmp (t2 + 3)) (.tmp (t2 + 1)), y8, q8, g8, none⟩] false).seq R)) off (.leaf .uuid) := by
  intro O rb b o Tb a w cs st Q R hN hh hst hF hq hr
  obtain ⟨d1, d2, d3, d4, d5, d6, d7, d8⟩ := hd
  have x1 := hD.dOne; have x2 := hD.dLo; have x3 := hD.dT; have x4 := hD.dN
  have hF' : o + off + 16 ≤ cs.length := hF
  refine wp_seq (wp_reg ?_)
  refine wl_call (R := RdPost (rdTake 16) (fun O w v s => v = .agg (s.map byteV).toArray) (fun v => ∃ l : List UInt8, l.length = 16 ∧ v = .agg (l.map byteV).toArray) O rb w st) he ?_ ?_
  · simp only [List.map_toArray, List.map_cons, List.map_nil, aget_eval]
    rw [hh.tail.head]
    exact hC O rb w st hst.rbO hst.lt hst.rdr
  rintro en w1 ⟨x, rfl, hr1, hk1, hbad, hgood⟩
  refine ⟨_, rfl, ?_⟩
  obtain ⟨l, hl16, hxl, hgl⟩ : ∃ l : List UInt8, l.length = 16 ∧ x = .agg (l.map byteV).toArray ∧ ∀ s r, st.bind (rdTake 16) = some (s, r) → s = l := by
    cases hx : st.bind (rdTake 16) with
    | none =>
      obtain ⟨l, h1, h2⟩ := hbad hx
      exact ⟨l, h1, h2, fun s r h => by cases h⟩
    | some q =>
      refine ⟨q.1, ?_, hgood q.1 q.2 hx, fun s r h => by cases h; rfl⟩
      cases st with
      | none => cases hx
      | some bs => exact take_len (r := q.2) hx
  subst hxl
  have hst1 := hst.call hr1 hk1
  obtain ⟨z, hz, hza⟩ := run_alloc_many (P := P) hU w1
  refine wl_value (v := .pointer (some ⟨w1.heap.size, 0, none⟩)) (w' := w1.alloc (.cells z U)) rfl (by simp [execOp, hza]) ?_
  have hg : (w1.alloc (.cells z U)).heap[w1.heap.size]? = some (.cells z U (0, 0)) := heap_alloc_new w1 _
  refine wl_store (w' := (w1.alloc (.cells z U)).setRow w1.heap.size (l.map byteV).toArray) ?_ ?_
  · rw [aget_eval, aget_eval, aget_put_same _ _ _ (by simp only [size_put]; omega), aget_put_other _ _ _ t1 (by omega), aget_put_same _ _ _ (by omega)]
    exact run_store_many (P := P) hU hg hz (l := l.map byteV) (by simpa using hl16) (bytes_one l)
  refine wpList_nil ?_
  have hf1 : Fr N lo t nt a ((a.put (some t1) (.agg (l.map byteV).toArray)).put (some v) (.pointer (some ⟨w1.heap.size, 0, none⟩))) := ((Fr.refl N lo t nt a).put _ _ (by omega)).put _ _ (by omega)
  have hv1 : aget ((a.put (some t1) (.agg (l.map byteV).toArray)).put (some v) (.pointer (some ⟨w1.heap.size, 0, none⟩))) v = .pointer (some ⟨w1.heap.size, 0, none⟩) := aget_put_same _ _ _ (by simp only [size_put]; omega)
  generalize ((a.put (some t1) (.agg (l.map byteV).toArray)).put (some v) (.pointer (some ⟨w1.heap.size, 0, none⟩))) = a1 at *
  have hN1 := hf1.size.trans hN
  have hh1 := hh.frR (kokR hk) hD hf1
  have hk2 : Keeps [] w1 ((w1.alloc (.cells z U)).setRow w1.heap.size (l.map byteV).toArray) := Keeps.setRow ((Keeps.refl [] w1).alloc _) (.inr (Nat.le_refl _)) _
  have hbl : Blk ((w1.alloc (.cells z U)).setRow w1.heap.size (l.map byteV).toArray) w1.heap.size (l.map byteV) U := setRow_heap _ _ _ _ _ _ hg
  generalize ((w1.alloc (.cells z U)).setRow w1.heap.size (l.map byteV).toArray) = w2 at *
  have hst2 := hst1.upd (hst1.blk.keeps hk2 (by simp)) (hk2.mono (by simp))
  simp only [Exit.then]
  refine wp_seq (wp_reg ?_)
  refine wl_move hh1.head ?_
  refine wl_value (v := .agg (l.map byteV).toArray) (w' := w2) rfl ?_ ?_
  · have e2 : (a1.put (some t2) (.pointer (some ⟨b, o, none⟩))).eval (.tmp v) = .pointer (some ⟨w1.heap.size, 0, none⟩) := (aget_put_other _ _ _ _ (by omega)).trans hv1
    have := run_load_many (P := P) hU (w := w2) (ad := ⟨w1.heap.size, 0, none⟩) (l := l.map byteV) (by simpa using hl16) (fun j x hx => by
      rw [Addr.add_lit, Nat.zero_add, hbl.cell]; exact hx)
    simp [execOp, e2, this]
  refine wl_nilCheck (ad := ⟨b, o, none⟩) (by rw [aget_put_other _ _ _ t2 (by omega)]; exact aget_put_same _ _ _ (by omega)) ?_
  refine wl_fieldAddr hT (aget_put_same _ _ _ (by simp only [size_put]; omega)) ?_
  rw [Addr.add_lit]
  have hl16' : (l.map byteV).length = 16 := by simpa using hl16
  refine wl_store (w' := w2.setRow b (laid cs (o + off) (l.map byteV)).toArray) ?_ ?_
  · rw [aget_eval, aget_eval, aget_put_same _ _ _ (by simp only [size_put]; omega), aget_put_other _ _ _ (t2 + 1) (by omega), aget_put_other _ _ _ (t2 + 1) (by omega), aget_put_same _ _ _ (by simp only [size_put]; omega)]
    exact run_store_many_at hU hst2.blk hl16' hF' (bytes_one l)
  have hb3 : Blk (w2.setRow b (laid cs (o + off) (l.map byteV)).toArray) b (laid cs (o + off) (l.map byteV)) Tb := setRow_heap _ _ _ _ _ _ hst2.blk
  have hk3 : Keeps [b] w2 (w2.setRow b (laid cs (o + off) (l.map byteV)).toArray) := Keeps.setRow (Keeps.refl [b] w2) (.inl (by simp)) _
  have hso := SameOut.laid cs (o + off) (l.map byteV) (by omega)
  have est : ((st.bind (rd ver flex (.leaf .uuid))).map (·.2)) = ((st.bind (rdTake 16)).map (·.2)) := by
    change (st.bind ((rdTake 16).bind fun s => Pr.pure (GV.bytes s))).map _ = _
    rw [bind_st]
    cases st.bind (rdTake 16) <;> rfl
  refine wpList_nil (hq _ _ (laid cs (o + off) (l.map byteV)) ?_ (hf1.trans (((((Fr.refl N lo t nt a1).put _ _ (by omega)).put _ _ (by omega)).put _ _ (by omega)).put _ _ (by omega))) ?_ ?_ fun gv r hv => ?_)
  · rw [est]
    exact hst2.upd hb3 hk3
  · exact ((keeps_rb hk1).trans (hk2.mono (by simp))).trans (hk3.mono (by simp))
  · rw [hl16'] at hso; exact hso
  · have hv' : ∃ q, st.bind (rdTake 16) = some q ∧ gv = .bytes q.1 := by
      change st.bind ((rdTake 16).bind fun s => Pr.pure (GV.bytes s)) = _ at hv
      rw [bind_st] at hv
      cases hx : st.bind (rdTake 16) with
      | none => rw [hx] at hv; cases hv
      | some q =>
        rw [hx] at hv
        simp only [Option.bind_some, Pr.pure, Option.some.injEq, Prod.mk.injEq] at hv
        exact ⟨q, rfl, hv.1.symm⟩
    obtain ⟨q, hx, rfl⟩ := hv'
    have hql := hgl q.1 q.2 hx
    rw [hql]
    refine ⟨hl16, fun i u hi => ?_⟩
    have hlt : i < l.length := (List.getElem?_eq_some_iff.1 hi).1
    rw [hb3.cell, laid_get cs (o + off) (l.map byteV) (by omega) i (by simp; omega), List.getElem?_map, hi]
    rfl
end
end Go.Proofs.YtmpilpgabelmiaaGreatDoor

/- Known tags, read: a list. -/
namespace Go.Proofs.YtmpilpgabelmiaaGreatDoor
open Go Go.RowKit Go.Maps
set_option linter.unusedVariables false

section
variable {RT : RTags} {P : Program} {N nt gE : Nat} {E : Value} {K : Slots} {lo t : Nat} {ver : Int} {flex : Bool}
/-- The room, the loop, the store: behind the count; with what follows. -/
theorem rd_tailK {s bp rs u l i v t1 t2 t3 t4 t5 t6 t7 t8 t9 F F2 T T2 I e T' k U off esz lo' t' B B' r1 r2 r3 r4 r5 r6 r7 r8 r9 r10 UN U1 U2 U3 U4 U5 U6 : Nat}
    {y1 y2 y3 y4 y5 y6 y7 y8 y9 y10 y11 y12 y13 y14 y15 y16 y17 y18 y19 y20 y21 y22 y23 y24 y25 y26 y27 : Nat} {q1 q2 q3 q4 q5 q6 q7 q8 q9 q10 q11 q12 q13 q14 q15 q16 q17 q18 q19 q20 q21 q22 q23 q24 q25 q26 q27 : String} {g1 g2 g3 g4 g5 g6 g7 g8 g9 g10 g11 g12 g13 g14 g15 g16 g17 g18 g19 g20 g21 g22 g23 g24 g25 g26 g27 : Array Edge}
    {at_ at2 : Array TypeId} {c : Code} {sch : Sch}
    (hRT : RTKeep RT) (hRM : RTMono RT) (hk : KOK N lo t ((s, .int .i64 0) :: (bp, .int .i64 0) :: K)) (hD : Dims N nt lo t) (hD' : Dims N nt lo' t')
    (heO : Enters P F) (hO : OkC P F) (heC : Enters P F2) (hC : CompleteC P F2 gE E) (hT : ElT P T e esz sch) (hT2 : ElT P T2 e esz sch) (hI : P.underlying I = some (.int .i32)) (hFA : FieldAt P T' k off) (hU : OneCell P U) (hesz : 0 < esz) (htop : top sch ≤ esz)
    (hd1 : t ≤ t1 ∧ t1 + 1 < nt ∧ t2 < nt ∧ rs < nt ∧ bp < lo ∧ t ≤ t3 ∧ t3 + 1 < nt ∧ t ≤ t4 ∧ t4 + 1 < nt ∧ t ≤ t5 ∧ t5 + 2 < nt ∧ t ≤ t6 ∧ t6 + 2 < nt ∧ t ≤ t7 ∧ t7 + 1 < nt ∧ t ≤ t8 ∧ t8 < nt ∧ t ≤ t9 ∧ t9 + 3 < nt)
    (hd2 : lo ≤ u ∧ u < N ∧ lo ≤ l ∧ l < N ∧ lo ≤ i ∧ i < N ∧ lo ≤ v ∧ v < N ∧ u < lo' ∧ l < lo' ∧ i < lo' ∧ lo ≤ lo' ∧ t ≤ t' ∧ u ≠ i ∧ l ≠ i ∧ u ≠ l) (hB : B ≠ B')
    (hEl : RdEl RT P N nt gE E ver flex K lo' t' u i bp rs c esz sch)
    (O : List Nat) (rb b o Tb : Nat) (a : Act) (w : World) (cs : List Value) (st : Option (List UInt8)) (Q : Exit → Act → World → Prop) (n : Int) (R : Code)
    (hN : a.tmps.size = nt) (hh : Holds ((s, .pointer (some ⟨b, o, none⟩)) :: (bp, .pointer (some ⟨rb, 0, none⟩)) :: K) a) (hst : RSt gE E O w rb b cs Tb ((st.bind (rdLen flex)).map (·.2))) (hlt : o + off < cs.length)
    (hu : ∀ q, st.bind (rdLen flex) = some q → aget a u = .slice none 0 0) (hl : aget a l = .int .i32 n) (hn : ∀ m r, st.bind (rdLen flex) = some (m, r) → m = n)
    (hq : ∀ a' w' cs', RSt gE E O w' rb b cs' Tb ((st.bind (rd ver flex (.list none esz sch))).map (·.2)) → Fr N lo t nt a a' → Keeps [rb, b] w w' → SameOut cs cs' (o + off) (o + (off + 1)) → (∀ v r, st.bind (rd ver flex (.list none esz sch)) = some (v, r) → Rep RT O w' ver flex (.list none esz sch) b (o + off) v) → R.wp P Q a' w')
    (hr : ∀ a' w', st.bind (rd ver flex (.list none esz sch)) = none → a'.tmps.size = nt → a'.defers = a.defers → aget a' rs = E → Keeps [rb, b] w w' → Q .ret a' w') :
    (((Code.region r1 #[⟨some t1, .call { callee := .value (.func F), args := #[.tmp bp], argTypes := at_ }, y1, q1, g1, none⟩, ⟨some (t1 + 1), .unOp .not UN (.tmp t1), y2, q2, g2, none⟩] false).seq
      (.cond (.tmp (t1 + 1)) ((Code.region r2 #[⟨some t2, .call { callee := .value (.func F2), args := #[.tmp bp], argTypes := at2 }, y3, q3, g3, none⟩, ⟨some rs, .assign (.tmp t2), y4, q4, g4, none⟩] false).seq .ret) .skip)).seq
    ((Code.region r3 #[⟨some t3, .move (.tmp u), y5, q5, g5, none⟩, ⟨some (t3 + 1), .slice T2 (.tmp t3) none (some (.const (.int .i64 0))) none, y6, q6, g6, none⟩, ⟨some u, .assign (.tmp (t3 + 1)), y7, q7, g7, none⟩] false).seq
    (((Code.region r4 #[⟨some t4, .move (.tmp l), y8, q8, g8, none⟩, ⟨some (t4 + 1), .binOp .gtr U1 (.tmp t4) (.const (.int .i32 0)) U2, y9, q9, g9, none⟩] false).seq
      (.cond (.tmp (t4 + 1)) (Code.region r5 #[⟨some t5, .move (.tmp u), y10, q10, g10, none⟩, ⟨some (t5 + 1), .move (.tmp l), y11, q11, g11, none⟩,
        ⟨some (t5 + 2), .call { callee := .builtin .append, args := #[.tmp t5, .tmp (t5 + 1)], argTypes := #[T, I] }, y12, q12, g12, none⟩, ⟨some u, .assign (.tmp (t5 + 2)), y13, q13, g13, none⟩] false) .skip)).seq
    (((Code.region r6 #[⟨some i, .assign (.const (.int .i32 0)), y14, q14, g14, none⟩] false).seq (.block B (.loop
      (((Code.region r7 #[⟨some t6, .move (.tmp i), y15, q15, g15, none⟩, ⟨some (t6 + 1), .move (.tmp l), y16, q16, g16, none⟩, ⟨some (t6 + 2), .binOp .lss U3 (.tmp t6) (.tmp (t6 + 1)) U4, y17, q17, g17, none⟩] false).seq (.cond (.tmp (t6 + 2)) .skip (.exit B))).seq
        ((Code.block B' c).seq (.region r8 #[⟨some t7, .move (.tmp i), y18, q18, g18, none⟩, ⟨some (t7 + 1), .binOp .add U5 (.tmp t7) (.const (.int .i32 1)) U6, y19, q19, g19, none⟩, ⟨some i, .assign (.tmp (t7 + 1)), y20, q20, g20, none⟩] false)))))).seq
    ((Code.region r9 #[⟨some t8, .move (.tmp u), y21, q21, g21, none⟩, ⟨some v, .assign (.tmp t8), y22, q22, g22, none⟩] false).seq
      ((Code.region r10 #[⟨some t9, .move (.tmp s), y23, q23, g23, none⟩, ⟨some (t9 + 1), .move (.tmp v), y24, q24, g24, none⟩, ⟨some (t9 + 2), .nilCheck (.tmp t9), y25, q25, g25, none⟩, ⟨some (t9 + 3), .fieldAddr T' (.tmp (t9 + 2)) k, y26, q26, g26, none⟩,
        ⟨none, .store U (.tmp (t9 + 3)) (.tmp (t9 + 1)), y27, q27, g27, none⟩] false).seq R)))))).wp P Q a w := by
  obtain ⟨c1, c2, c3, c4, c5, c6, c7, c8, c9, c10, c11, c12, c13, c14, c15, c16, c17, c18, c19⟩ := hd1
  obtain ⟨d1, d2, d3, d4, d5, d6, d7, d8, d9, d10, d11, d12, d13, d14, d15, d16⟩ := hd2
  have x1 := hD.dOne; have x2 := hD.dLo; have x3 := hD.dT; have x4 := hD.dN
  have tot := rd_list ver flex none esz sch st
  refine wp_seq (reg_ok heO hO heC hC hN hh.tail.head hst.rdr hst.glob hD ⟨c1, c2, c3, c4, by omega, by omega⟩ (fun a1 hs1 hf1 hkeep1 => ?_) (fun a1 hs1 h1 h2 h3 => ?_))
  rotate_left
  · refine hr a1 w ?_ h1 h2 h3 (Keeps.refl _ _)
    rw [tot]
    cases hx : st.bind (rdLen flex) with
    | none => rfl
    | some q => rw [hx] at hs1; cases hs1
  obtain ⟨r, hlen⟩ : ∃ r, st.bind (rdLen flex) = some (n, r) := by
    cases hx : st.bind (rdLen flex) with
    | none => rw [hx] at hs1; cases hs1
    | some q =>
      refine ⟨q.2, ?_⟩
      rw [← hn q.1 q.2 hx]
  have hlen0 := hlen
  rw [hlen] at hst tot
  rw [Option.bind_some] at tot
  dsimp only at tot
  change RSt gE E O w rb b cs Tb (some r) at hst
  have hrM : r.length ≤ lim := by obtain ⟨sv, -, -, h⟩ := hst.rdr; exact h
  have hnr : n ≤ r.length := by
    cases st with
    | none => cases hlen
    | some bs => exact (out_len hlen).1
  have hn32 : n ≤ 2147483647 := by
    cases st with
    | none => cases hlen
    | some bs => exact (out_len hlen).2.2.2
  have hN1 := hf1.size.trans hN
  have hu1 : aget a1 u = .slice none 0 0 := (hkeep1 u d2).trans (hu _ hlen0)
  have hl1 : aget a1 l = .int .i32 n := (hkeep1 l d4).trans hl
  clear hkeep1 hs1
  -- the store
  have fin : ∀ (a4 : Act) (w4 : World) (x : Value) (st4 : Option (List UInt8)), Fr N lo t nt a a4 → aget a4 u = x → One x → RSt gE E O w4 rb b cs Tb st4 → (∀ a', Fr N lo t nt a a' → R.wp P Q a' (w4.setCell ⟨b, o + off, none⟩ x)) →
      ((Code.region r9 #[⟨some t8, .move (.tmp u), y21, q21, g21, none⟩, ⟨some v, .assign (.tmp t8), y22, q22, g22, none⟩] false).seq
      ((Code.region r10 #[⟨some t9, .move (.tmp s), y23, q23, g23, none⟩, ⟨some (t9 + 1), .move (.tmp v), y24, q24, g24, none⟩, ⟨some (t9 + 2), .nilCheck (.tmp t9), y25, q25, g25, none⟩, ⟨some (t9 + 3), .fieldAddr T' (.tmp (t9 + 2)) k, y26, q26, g26, none⟩,
        ⟨none, .store U (.tmp (t9 + 3)) (.tmp (t9 + 1)), y27, q27, g27, none⟩] false).seq R)).wp P Q a4 w4 := by
    intro a4 w4 x st4 hf4 hx hone hst4 hqq
    have hN4 := hf4.size.trans hN
    refine wp_seq (wp_reg ?_)
    refine wl_move hx ?_
    refine wl_assign (aget_put_same _ _ _ (by omega)) ?_
    refine wpList_nil ?_
    have hf5 : Fr N lo t nt a ((a4.put (some t8) x).put (some v) x) := hf4.trans (((Fr.refl N lo t nt a4).put _ _ (by omega)).put _ _ (by omega))
    have hh5 := hh.frR (kokR hk) hD hf5
    simp only [Exit.then]
    exact wp_seq (reg_store hFA hU (hf5.size.trans hN) hh5.head (aget_put_same _ _ _ (by simp only [size_put]; omega)) hone hst4.blk hlt hD ⟨c18, c19, by omega⟩ fun a' hf => hqq a' (hf5.trans hf))
  refine wp_seq (wp_reg ?_)
  refine wl_move hu1 ?_
  obtain ⟨ti, tz, hti, -⟩ := hT2.info
  refine wl_slice0 hT2.under ⟨ti, hti⟩ (aget_put_same _ _ _ (by omega)) ?_
  refine wl_assign (aget_put_same _ _ _ (by simp only [size_put]; omega)) ?_
  refine wpList_nil ?_
  have hf2 : Fr N lo t nt a (((a1.put (some t3) (.slice none 0 0)).put (some (t3 + 1)) (.slice none 0 0)).put (some u) (.slice none 0 0)) := hf1.trans ((((Fr.refl N lo t nt a1).put _ _ (by omega)).put _ _ (by omega)).put _ _ (by omega))
  have hu2 : aget (((a1.put (some t3) (.slice none 0 0)).put (some (t3 + 1)) (.slice none 0 0)).put (some u) (.slice none 0 0)) u = .slice none 0 0 := aget_put_same _ _ _ (by simp only [size_put]; omega)
  have hl2 : aget (((a1.put (some t3) (.slice none 0 0)).put (some (t3 + 1)) (.slice none 0 0)).put (some u) (.slice none 0 0)) l = .int .i32 n := by rw [aget_put_other _ _ _ l (by omega), aget_put_other _ _ _ l (by omega), aget_put_other _ _ _ l (by omega)]; exact hl1
  generalize (((a1.put (some t3) (.slice none 0 0)).put (some (t3 + 1)) (.slice none 0 0)).put (some u) (.slice none 0 0)) = a2 at *
  clear hu1 hl1 hf1 hN1
  simp only [Exit.then]
  refine wp_seq (reg_make hT hI hesz htop hD ⟨c8, c9, c10, c11, d1, d2, d4⟩ (hf2.size.trans hN) hu2 hl2 (by omega) (fun a3 h0 hf3 hs3 hu3 => ?_) (fun a3 csp cap h0 hf3 hs3 hu3 hcap1 hcap2 hfr => ?_))
  · -- nothing to read
    have hl3 : aget a3 l = .int .i32 n := (hs3 l (by omega) d4).trans hl2
    refine wp_seq (rd_for0 hD ⟨c12, c13, d3, d4, d5, d6, d15⟩ a3 w n _ ((hf2.trans hf3).size.trans hN) h0 hl3 fun a4 hf4 hs4 => ?_)
    refine fin a4 w (.slice none 0 0) (some r) ((hf2.trans hf3).trans hf4) ((hs4 u d14 d2).trans hu3) ⟨rfl, rfl⟩ hst fun a' hf' => ?_
    have hstore := hst.store (o + off) (.slice none 0 0)
    have hcell : (w.setCell ⟨b, o + off, none⟩ (.slice none 0 0)).cell? ⟨b, o + off, none⟩ = some (.slice none 0 0) := (hst.blk.set (o + off) _).cell_some (by rw [List.getElem?_set_self hlt])
    refine hq a' (w.setCell ⟨b, o + off, none⟩ (.slice none 0 0)) (cs.set (o + off) (.slice none 0 0)) ?_ hf' (keeps_b w _ _) ((SameOut.set cs (o + off) (.slice none 0 0)).mono (by omega) (by omega)) fun gv r' hv => ?_
    · rw [tot, if_neg (by simp [nullAt]), show n.toNat = 0 by omega]
      exact hstore
    · rw [tot, if_neg (by simp [nullAt]), show n.toNat = 0 by omega] at hv
      cases hv
      exact ⟨none, 0, hcell, by simp, (fun h => nomatch h), fun h => absurd rfl h⟩
  · -- things
    have hl3 : aget a3 l = .int .i32 (n.toNat : Nat) := by rw [Int.toNat_of_nonneg (by omega)]; exact (hs3 l (by omega) d4).trans hl2
    have hf03 := hf2.trans hf3
    have hh3 := hh.frR (kokR hk) hD hf03
    have hk1 : Keeps [rb] w (w.drew.alloc (.cells csp.toArray e)) := ((Keeps.refl [rb] w).drew).alloc _
    have hk0 : Keeps [] w (w.drew.alloc (.cells csp.toArray e)) := ((Keeps.refl [] w).drew).alloc _
    have hrst1 : RSt gE E (w.heap.size :: O) (w.drew.alloc (.cells csp.toArray e)) rb w.heap.size csp e (some r) := by
      refine ⟨?_, Blk.alloc_new w.drew csp e, List.mem_cons_of_mem _ hst.rbO, List.mem_cons_self .., ?_, ?_, ?_, ?_⟩
      · exact (hst.rdr.open (Nat.le_refl _)).other (O' := []) hk0 (by simp) (by simp)
      · have := hst.lt rb hst.rbO; omega
      · intro k hk'
        rcases List.mem_cons.1 hk' with rfl | hk'
        · simp
        · have := hst.lt k hk'
          simp
          omega
      · exact (World.cell?_of_block (hk0.block gE (World.block_lt_of_cell? w _ hst.glob) (by simp))).trans hst.glob
      · intro hx
        rcases List.mem_cons.1 hx with hx | hx
        · have := World.block_lt_of_cell? w _ hst.glob
          simp at this
          omega
        · exact hst.gO hx
    refine wp_seq (rd_for hRT (fun q hq => hk q (by simp only [List.mem_cons] at hq ⊢; rcases hq with rfl | hq; exact .inr (.inl rfl); exact .inr (.inr hq))) hD hD' ⟨c12, c13, c14, c15, d1, d2, d3, d4, d5, d6, d9, d10, d11, d12, d13, d14, d15, d16⟩ hB htop hesz hEl (w.heap.size :: O) rb w.heap.size e n.toNat cap a3 _ csp (some r) _
      (hf03.size.trans hN) hh3.tail (by omega) hrst1 hl3 hu3 hfr (fun a4 w4 cs4 hst4 hf4 hu4 hk4 hv4 => ?_) (fun a4 w4 hn4 hs4 hd4 hE4 hk4 => ?_))
    · obtain ⟨hb4, hkb⟩ := hst.back (Nat.le_refl _) hk1 hk4 hst4
      refine fin a4 w4 (.slice (some ⟨w.heap.size, 0, none⟩) n.toNat cap) _ (hf03.trans hf4) hu4 ⟨rfl, rfl⟩ hb4 fun a' hf' => ?_
      have hstore := hb4.store (o + off) (.slice (some ⟨w.heap.size, 0, none⟩) n.toNat cap)
      have hcell : (w4.setCell ⟨b, o + off, none⟩ (.slice (some ⟨w.heap.size, 0, none⟩) n.toNat cap)).cell? ⟨b, o + off, none⟩ = some (.slice (some ⟨w.heap.size, 0, none⟩) n.toNat cap) := (hb4.blk.set (o + off) _).cell_some (by rw [List.getElem?_set_self hlt])
      have hnl : ¬ (n < 0 ∧ nullAt none ver = true) := fun h => by omega
      rw [if_neg hnl] at tot
      have tot2 : st.bind (rd ver flex (.list none esz sch)) = ((some r).bind (rdMany (rd ver flex sch) n.toNat)).bind fun q => some (.list q.1, q.2) := tot
      refine hq a' (w4.setCell ⟨b, o + off, none⟩ (.slice (some ⟨w.heap.size, 0, none⟩) n.toNat cap)) (cs.set (o + off) (.slice (some ⟨w.heap.size, 0, none⟩) n.toNat cap)) ?_ hf' (hkb.trans (keeps_b w4 _ _)) ((SameOut.set cs (o + off) _).mono (by omega) (by omega)) fun gv r' hv => ?_
      · rw [tot2]
        cases hx : (some r).bind (rdMany (rd ver flex sch) n.toNat) with
        | none => rw [hx] at hstore; exact hstore
        | some q => rw [hx] at hstore; exact hstore
      · rw [tot2] at hv
        cases hx : (some r).bind (rdMany (rd ver flex sch) n.toNat) with
        | none => rw [hx] at hv; cases hv
        | some q =>
          rw [hx] at hv
          simp only [Option.bind_some, Option.some.injEq, Prod.mk.injEq] at hv
          obtain ⟨rfl, rfl⟩ := hv
          obtain ⟨hlen2, hrep⟩ := hv4 q.1 q.2 hx
          have hkO : Keeps O w4 (w4.setCell ⟨b, o + off, none⟩ (.slice (some ⟨w.heap.size, 0, none⟩) n.toNat cap)) := (Keeps.refl O w4).setCell hst.bO _
          refine ⟨some ⟨w.heap.size, 0, none⟩, cap, by rw [hlen2]; exact hcell, by omega, fun _ => rfl, fun _ => ⟨w.heap.size, 0, rfl, new_notin hst.lt, ?_, fun j x hj => ?_⟩⟩
          · have := hst4.blk.lt
            simpa [World.setCell] using this
          · rw [Nat.zero_add]
            refine ((hrep j x hj).mono hRM fun k hk => List.mem_cons_of_mem _ hk).move hRT hkO fun m _ => ?_
            exact World.cell?_of_block (hkO.block _ hst4.blk.lt (new_notin hst.lt))
    · have hkb := (hk1.mono (O' := [w.heap.size, rb]) (by simp)).trans (hk4.mono (by simp)) |>.close (Nat.le_refl _)
      refine hr a4 w4 ?_ hs4 (hd4.trans hf03.defers) hE4 (keeps_rb hkb)
      rw [tot, if_neg (fun h => by omega)]
      change ((some r).bind (rdMany (rd ver flex sch) n.toNat)).bind _ = none
      rw [hn4]
      rfl
/-- What is asked of a known list's cell ahead of its reading. -/
def PreL (flex : Bool) (cs : List Value) (p : Nat) (st : Option (List UInt8)) : Prop := cs[p]? = some (.slice none 0 0) ∨ (st.bind (rdLen flex) = none ∧ ∃ ad n c, cs[p]? = some (.slice ad n c))
/-- The code of a list, with what follows it. -/
def RdFL (RT : RTags) (P : Program) (N nt gE : Nat) (E : Value) (ver : Int) (flex : Bool) (K : Slots) (lo t s bp rs : Nat) (ct : Code → Code) (off : Nat) (f : Sch) : Prop :=
  ∀ (O : List Nat) (rb b o T : Nat) (a : Act) (w : World) (cs : List Value) (st : Option (List UInt8)) (Q : Exit → Act → World → Prop) (R : Code),
    a.tmps.size = nt → Holds ((s, .pointer (some ⟨b, o, none⟩)) :: (bp, .pointer (some ⟨rb, 0, none⟩)) :: K) a → RSt gE E O w rb b cs T st → PreL flex cs (o + off) st →
    (∀ a' w' cs', RSt gE E O w' rb b cs' T ((st.bind (rd ver flex f)).map (·.2)) → Fr N lo t nt a a' → Keeps [rb, b] w w' → SameOut cs cs' (o + off) (o + (off + 1)) → (∀ v r, st.bind (rd ver flex f) = some (v, r) → Rep RT O w' ver flex f b (o + off) v) → R.wp P Q a' w') →
    (∀ a' w', st.bind (rd ver flex f) = none → a'.tmps.size = nt → a'.defers = a.defers → aget a' rs = E → Keeps [rb, b] w w' → Q .ret a' w') → (ct R).wp P Q a w
theorem rdFL_mk {s bp rs u l i v z1 z2 rz1 rz2 rz3 x1 x2 x3 x4 x5 x6 x7 x8 vz UZ t1 t2 t3 t4 t5 t6 t7 t8 t9 F F2 T T2 I e T' k U off esz lo' t' B B' r1 r2 r3 r4 r5 r6 r7 r8 r9 r10 UN U1 U2 U3 U4 U5 U6 : Nat}
    {y1 y2 y3 y4 y5 y6 y7 y8 y9 y10 y11 y12 y13 y14 y15 y16 y17 y18 y19 y20 y21 y22 y23 y24 y25 y26 y27 : Nat} {q1 q2 q3 q4 q5 q6 q7 q8 q9 q10 q11 q12 q13 q14 q15 q16 q17 q18 q19 q20 q21 q22 q23 q24 q25 q26 q27 : String} {g1 g2 g3 g4 g5 g6 g7 g8 g9 g10 g11 g12 g13 g14 g15 g16 g17 g18 g19 g20 g21 g22 g23 g24 g25 g26 g27 : Array Edge}
    {at_ at2 : Array TypeId} {c cl : Code} {sch : Sch} {p1 p2 p3 p4 p5 p6 p7 p8 : String} {h1 h2 h3 h4 h5 h6 h7 h8 : Array Edge}
    (hRT : RTKeep RT) (hRM : RTMono RT) (hk : KOK N lo t ((s, .int .i64 0) :: (bp, .int .i64 0) :: K)) (hD : Dims N nt lo t) (hD' : Dims N nt lo' t')
    (heO : Enters P F) (hO : OkC P F) (heC : Enters P F2) (hC : CompleteC P F2 gE E) (hT : ElT P T e esz sch) (hT2 : ElT P T2 e esz sch) (hI : P.underlying I = some (.int .i32)) (hFA : FieldAt P T' k off) (hU : OneCell P U) (hesz : 0 < esz) (htop : top sch ≤ esz)
    (hd1 : t ≤ t1 ∧ t1 + 1 < nt ∧ t2 < nt ∧ rs < nt ∧ bp < lo ∧ t ≤ t3 ∧ t3 + 1 < nt ∧ t ≤ t4 ∧ t4 + 1 < nt ∧ t ≤ t5 ∧ t5 + 2 < nt ∧ t ≤ t6 ∧ t6 + 2 < nt ∧ t ≤ t7 ∧ t7 + 1 < nt ∧ t ≤ t8 ∧ t8 < nt ∧ t ≤ t9 ∧ t9 + 3 < nt)
    (hd2 : lo ≤ u ∧ u < N ∧ lo ≤ l ∧ l < N ∧ lo ≤ i ∧ i < N ∧ lo ≤ v ∧ v < N ∧ u < lo' ∧ l < lo' ∧ i < lo' ∧ lo ≤ lo' ∧ t ≤ t' ∧ u ≠ i ∧ l ≠ i ∧ u ≠ l) (hB : B ≠ B')
    (hEl : RdEl RT P N nt gE E ver flex K lo' t' u i bp rs c esz sch)
    (hU0 : OneCell P UZ) (hd3 : t ≤ z1 ∧ z1 + 3 < nt ∧ lo ≤ vz ∧ vz < N ∧ t ≤ z2 ∧ z2 < nt) (hln : RdLn P N nt gE E flex K lo t bp cl l) :
    RdFL RT P N nt gE E ver flex K lo t s bp rs (fun R => (Code.region rz1 #[⟨some z1, .move (.tmp s), x1, p1, h1, none⟩, ⟨some (z1 + 1), .nilCheck (.tmp z1), x2, p2, h2, none⟩, ⟨some (z1 + 2), .fieldAddr T' (.tmp (z1 + 1)) k, x3, p3, h3, none⟩,
      ⟨some (z1 + 3), .load UZ (.tmp (z1 + 2)), x4, p4, h4, none⟩, ⟨some vz, .assign (.tmp (z1 + 3)), x5, p5, h5, none⟩] false).seq
      ((Code.region rz2 #[⟨some z2, .move (.tmp vz), x6, p6, h6, none⟩, ⟨some u, .assign (.tmp z2), x7, p7, h7, none⟩] false).seq
      ((Code.region rz3 #[⟨some l, .assign (.const (.int .i32 0)), x8, p8, h8, none⟩] false).seq (cl.seq
    ((((Code.region r1 #[⟨some t1, .call { callee := .value (.func F), args := #[.tmp bp], argTypes := at_ }, y1, q1, g1, none⟩, ⟨some (t1 + 1), .unOp .not UN (.tmp t1), y2, q2, g2, none⟩] false).seq
      (.cond (.tmp (t1 + 1)) ((Code.region r2 #[⟨some t2, .call { callee := .value (.func F2), args := #[.tmp bp], argTypes := at2 }, y3, q3, g3, none⟩, ⟨some rs, .assign (.tmp t2), y4, q4, g4, none⟩] false).seq .ret) .skip)).seq
    ((Code.region r3 #[⟨some t3, .move (.tmp u), y5, q5, g5, none⟩, ⟨some (t3 + 1), .slice T2 (.tmp t3) none (some (.const (.int .i64 0))) none, y6, q6, g6, none⟩, ⟨some u, .assign (.tmp (t3 + 1)), y7, q7, g7, none⟩] false).seq
    (((Code.region r4 #[⟨some t4, .move (.tmp l), y8, q8, g8, none⟩, ⟨some (t4 + 1), .binOp .gtr U1 (.tmp t4) (.const (.int .i32 0)) U2, y9, q9, g9, none⟩] false).seq
      (.cond (.tmp (t4 + 1)) (Code.region r5 #[⟨some t5, .move (.tmp u), y10, q10, g10, none⟩, ⟨some (t5 + 1), .move (.tmp l), y11, q11, g11, none⟩,
        ⟨some (t5 + 2), .call { callee := .builtin .append, args := #[.tmp t5, .tmp (t5 + 1)], argTypes := #[T, I] }, y12, q12, g12, none⟩, ⟨some u, .assign (.tmp (t5 + 2)), y13, q13, g13, none⟩] false) .skip)).seq
    (((Code.region r6 #[⟨some i, .assign (.const (.int .i32 0)), y14, q14, g14, none⟩] false).seq (.block B (.loop
      (((Code.region r7 #[⟨some t6, .move (.tmp i), y15, q15, g15, none⟩, ⟨some (t6 + 1), .move (.tmp l), y16, q16, g16, none⟩, ⟨some (t6 + 2), .binOp .lss U3 (.tmp t6) (.tmp (t6 + 1)) U4, y17, q17, g17, none⟩] false).seq (.cond (.tmp (t6 + 2)) .skip (.exit B))).seq
        ((Code.block B' c).seq (.region r8 #[⟨some t7, .move (.tmp i), y18, q18, g18, none⟩, ⟨some (t7 + 1), .binOp .add U5 (.tmp t7) (.const (.int .i32 1)) U6, y19, q19, g19, none⟩, ⟨some i, .assign (.tmp (t7 + 1)), y20, q20, g20, none⟩] false)))))).seq
    ((Code.region r9 #[⟨some t8, .move (.tmp u), y21, q21, g21, none⟩, ⟨some v, .assign (.tmp t8), y22, q22, g22, none⟩] false).seq
      ((Code.region r10 #[⟨some t9, .move (.tmp s), y23, q23, g23, none⟩, ⟨some (t9 + 1), .move (.tmp v), y24, q24, g24, none⟩, ⟨some (t9 + 2), .nilCheck (.tmp t9), y25, q25, g25, none⟩, ⟨some (t9 + 3), .fieldAddr T' (.tmp (t9 + 2)) k, y26, q26, g26, none⟩,
        ⟨none, .store U (.tmp (t9 + 3)) (.tmp (t9 + 1)), y27, q27, g27, none⟩] false).seq R))))))))))) off (.list none esz sch) := by
  intro O rb b o Tb a w cs st Q R hN hh hst hpre hq hr
  obtain ⟨d1, d2, d3, d4, d5, d6⟩ := hd3
  have hd2' := hd2
  obtain ⟨e1, e2, e3, e4, e5, e6, e7, e8, e9, e10, e11, e12, e13, e14, e15, e16⟩ := hd2'
  have g1 := hD.dOne; have g2 := hD.dLo; have g3 := hD.dT; have g4 := hD.dN
  obtain ⟨ad, n0, c0, hc⟩ : ∃ ad n c, cs[o + off]? = some (.slice ad n c) := hpre.elim (fun h => ⟨_, _, _, h⟩) (fun h => h.2)
  have hlt : o + off < cs.length := (List.getElem?_eq_some_iff.1 hc).1
  refine wp_seq (reg_load (x0 := nt) (lo := lo) hFA hU0 hN hh.head (x := .slice ad n0 c0) (by rw [Addr.add_lit]; exact hst.blk.cell_some hc) ⟨hD.dT, d1, d2, d3, d4⟩ fun a1 hf1 hx1 => ?_)
  have hN1 := hf1.size.trans hN
  refine wp_seq (reg_copy (x0 := nt) (lo := lo) hN1 hx1 ⟨hD.dT, d5, d6, e1, e2⟩ fun a2 hf2 hx2 => ?_)
  refine wp_seq (wp_reg (wl_assign_c (wpList_nil ?_)))
  have hf3 : Fr N lo t nt a (a2.put (some l) (.int .i32 0)) := (hf1.trans hf2).trans ((Fr.refl N lo t nt a2).put _ _ (by omega))
  have hx3 : aget (a2.put (some l) (.int .i32 0)) u = .slice ad n0 c0 := by rw [aget_put_other _ _ _ u (by omega)]; exact hx2
  generalize a2.put (some l) (.int .i32 0) = a3 at *
  have hh3 := hh.frR (kokR hk) hD hf3
  simp only [Exit.then]
  refine wp_seq (hln O rb b Tb a3 w cs st _ (hf3.size.trans hN) hh3.tail hst fun a4 w4 n hl4 hst4 hf4 hs4 hk4 hn4 => ?_)
  simp only [Exit.then]
  refine rd_tailK hRT hRM hk hD hD' heO hO heC hC hT hT2 hI hFA hU hesz htop hd1 hd2 hB hEl O rb b o Tb a4 w4 cs st Q n R (hf4.size.trans (hf3.size.trans hN)) (hh3.frR (kokR hk) hD hf4) hst4 hlt ?_ hl4 hn4
    (fun a' w' cs' k1 k2 k3 => hq a' w' cs' k1 ((hf3.trans hf4).trans k2) ((keeps_rb hk4).trans k3)) (fun a' w' k1 k2 k3 k4 k5 => hr a' w' k1 k2 (k3.trans (hf4.defers.trans hf3.defers)) k4 ((keeps_rb hk4).trans k5))
  intro q hq'
  rcases hpre with h | ⟨h, -⟩
  · rw [hc] at h
    cases h
    exact (hs4 u e16 e2).trans hx3
  · rw [h] at hq'
    cases hq'
theorem rdFL_var {s bp rs u r ty1 off : Nat} {p1 : String} {e1 : Array Edge} {ct : Code → Code} {f : Sch} {z : Value} (hk : KOK N lo t ((s, .int .i64 0) :: (bp, .int .i64 0) :: K)) (hD : Dims N nt lo t) (hd : lo ≤ u ∧ u < N) (h : RdFL RT P N nt gE E ver flex K lo t s bp rs ct off f) :
    RdFL RT P N nt gE E ver flex K lo t s bp rs (fun R => (Code.region r #[⟨some u, .assign (.const z), ty1, p1, e1, none⟩] false).seq (ct R)) off f := by
  intro O rb b o T a w cs st Q R hN hh hst hFr hq hr
  refine wp_seq (wp_reg (wl_assign_c (wpList_nil ?_)))
  have hf : Fr N lo t nt a (a.put (some u) z) := (Fr.refl N lo t nt a).put _ _ (by omega)
  exact h O rb b o T _ w cs st Q R (hf.size.trans hN) (hh.frR (kokR hk) hD hf) hst hFr (fun a2 w2 cs2 g1 g2 => hq a2 w2 cs2 g1 (hf.trans g2)) (fun a2 w2 g1 g2 g3 => hr a2 w2 g1 g2 (g3.trans hf.defers))
theorem kb_list {s bp rs ib x t1 t2 t3 t4 lo' t' FU FS FC U I J JE UE r0 r1 r2 r3 off y1 y2 y3 y4 y5 y6 y7 y8 y9 y10 y11 y12 : Nat} {q1 q2 q3 q4 q5 q6 q7 q8 q9 q10 q11 q12 : String} {e1 e2 e3 e4 e5 e6 e7 e8 e9 e10 e11 e12 : Array Edge} {at1 at2 at3 : Array TypeId} {ct : Code → Code} {esz : Nat} {sch : Sch} {d : Int} {tE : TypeId} {vE : Value}
    (hRT : RTMono RT) (hk : KOK N lo t ((s, .int .i64 0) :: (bp, .int .i64 0) :: K)) (heU : Enters P FU) (hCU : UvC P FU) (heS : Enters P FS) (hS : SpanC P FS) (hI : P.underlying I = some (.int .u32)) (hJ : P.underlying J = some (.int .i64)) (hU : ManyCells P U 2) (hUr : U = 110) (hB : ∀ ad n m, P.built U [(0, .slice ad n m)] = some #[.slice ad n m, .bool false])
    (heC : Enters P FC) (hC : CompleteC P FC gE E) (hE' : E = .iface tE vE) (hJE : ∀ w t v, (binOp .neq JE (.iface t v) .nilIface).run P w = .ok (.bool true) w) (hJ0 : ∀ w, (binOp .neq JE .nilIface .nilIface).run P w = .ok (.bool false) w) (hJg : ∀ x, eqGuard .neq JE (.tmp t3) (.const .nilIface) x .nilIface = pure ())
    (hD : Dims N nt lo t) (hD' : Dims N nt lo' t') (hd : t ≤ t1 ∧ t1 + 3 < nt ∧ lo ≤ ib ∧ ib < N ∧ bp < lo ∧ s < lo ∧ ib < lo' ∧ lo ≤ lo' ∧ t ≤ t') (hd2 : t ≤ t2 ∧ t2 < nt ∧ lo ≤ x ∧ x < N ∧ t ≤ t3 ∧ t3 + 1 < nt ∧ t4 < nt ∧ rs < nt ∧ rs ≠ x) (hkn : knd (.list none esz sch) d = true)
    (h : RdFL RT P N nt gE E ver flex K lo' t' s ib rs ct off (.list none esz sch)) :
    KB RT P N nt gE E ver flex K lo t s bp rs ((Code.region r0 #[⟨some t1, .call { callee := .value (.func FU), args := #[.tmp bp], argTypes := at1 }, y1, q1, e1, none⟩, ⟨some (t1 + 1), .convert I J (.tmp t1), y2, q2, e2, none⟩,
      ⟨some (t1 + 2), .call { callee := .value (.func FS), args := #[.tmp bp, .tmp (t1 + 1)], argTypes := at2 }, y3, q3, e3, none⟩, ⟨some (t1 + 3), .build U #[(0, .tmp (t1 + 2))], y4, q4, e4, none⟩, ⟨some ib, .alloc U, y5, q5, e5, none⟩,
      ⟨none, .store U (.tmp ib) (.tmp (t1 + 3)), y6, q6, e6, none⟩] false).seq (ct
      ((Code.region r1 #[⟨some t2, .call { callee := .value (.func FC), args := #[.tmp ib], argTypes := at3 }, y7, q7, e7, none⟩, ⟨some x, .assign (.tmp t2), y8, q8, e8, none⟩] false).seq
      ((Code.region r2 #[⟨some t3, .move (.tmp x), y9, q9, e9, none⟩, ⟨some (t3 + 1), .binOp .neq JE (.tmp t3) (.const .nilIface) UE, y10, q10, e10, none⟩] false).seq
      (.cond (.tmp (t3 + 1)) ((Code.region r3 #[⟨some t4, .move (.tmp x), y11, q11, e11, none⟩, ⟨some rs, .assign (.tmp t4), y12, q12, e12, none⟩] false).seq .ret) .skip))))) off (.list none esz sch) := by
  intro O rb b o T a w cs st Q hN hh hst hF hq hr
  obtain ⟨d1, d2, d3, d4, d5, d6, d7, d9, d10⟩ := hd
  obtain ⟨c1, c2, c3, c4, c5, c6, c7, c8, c9⟩ := hd2
  refine wp_seq (reg_inner heU hCU heS hS hI hJ hU hUr hB hN hh.tail.head hst hD ⟨d1, d2, d3, d4, d5⟩ fun a1 w1 rb' sp hnew hib hri hro hf1 hk1 hs1 hs0 => ?_)
  have hh1 := hh.frR (kokR hk) hD hf1
  have hN1 := hf1.size.trans hN
  refine h (rb' :: O) rb' b o T a1 w1 cs (some sp) _ _ hN1 ?_ hri ?_ ?_ ?_
  · intro p hp
    simp only [List.mem_cons] at hp
    rcases hp with rfl | rfl | hp
    · exact hh1.head
    · exact hib
    · exact hh1 p (by simp [hp])
  · rcases hF with h0 | ⟨h0, h1⟩
    · exact .inl h0
    · refine .inr ⟨?_, h1⟩
      subst h0
      rw [hs0 rfl]
      cases flex <;> rfl
  · intro a2 w2 cs2 hst2 hf2 hk2 hso hrep
    have hN2 := hf2.size.trans hN1
    have hib2 : aget a2 ib = .pointer (some ⟨rb', 0, none⟩) := (hf2.same ib (by have := hD'.dN; have := hD'.dT; have := hD'.dLo; omega) (.inl d7)).trans hib
    obtain ⟨k1, k2⟩ := rst_outer hst hnew hro hst2 hk2 hk1
    refine reg_err heC hC hE' hJE hJ0 hJg hN2 hib2 hst2.rdr hst2.glob hD ⟨c1, c2, c3, c4, c5, c6, c7, c8, c9⟩ (fun a3 hsome hf3 => ?_) (fun a3 hnone g1 g2 g3 => hr a3 w2 ?_ g1 (g2.trans (hf2.defers.trans hf1.defers)) g3 k2)
    · cases hx : (some sp).bind (rd ver flex (.list none esz sch)) with
      | none => rw [hx] at hsome; cases hsome
      | some q =>
        have hsp : ∃ r, st.bind rdSp = some (sp, r) := by
          cases hy : st.bind rdSp with
          | none =>
            rw [hs0 hy] at hx
            have : rd ver flex (.list none esz sch) [] = some q := hx
            rw [rd_nil hkn] at this
            cases this
          | some z => exact ⟨z.2, by rw [← hs1 z.1 z.2 hy]⟩
        obtain ⟨r, hr'⟩ := hsp
        rw [hr'] at k1
        exact hq a3 w2 cs2 sp r q.1 q.2 hr' hx k1 (hf1.trans ((hf2.mono d9 d10).trans hf3)) k2 hso ((hrep q.1 q.2 hx).mono hRT fun k hk' => List.mem_cons_of_mem _ hk')
    · intro sp' r' hy
      have := hs1 sp' r' hy
      subst this
      cases hx : rd ver flex (.list none esz sch) sp' with
      | none => rfl
      | some q =>
        have hx' : (some sp').bind (rd ver flex (.list none esz sch)) = some q := hx
        rw [hx'] at hnone
        cases hnone
  · intro a2 w2 hn g1 g2 g3 g4
    refine hr a2 w2 (fun sp' r' hy => ?_) g1 (g2.trans hf1.defers) g3 ?_
    · have := hs1 sp' r' hy
      subst this
      exact hn
    · have hrl := hst.lt rb hst.rbO
      have h1 : Keeps [rb', rb, b] w w2 := (hk1.mono (by simp)).trans (g4.mono (by simp))
      exact h1.close hnew
end
end Go.Proofs.YtmpilpgabelmiaaGreatDoor
