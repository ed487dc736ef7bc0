/- Shared texts of these proofs, laid together by merge.py: Rf, Rg, Rl, Rn, Ro, Rp. -/
import Derived.Test.YtmpilpgabelmiaaGreatDoorVc
import Derived.Lib.AppendZeros
set_option linter.unusedVariables false
/- The code that reads a part reads just what 'rd' says, and lays it in memory: one rule for each form of the generated code. -/
namespace Go.Proofs.YtmpilpgabelmiaaGreatDoor
open Go Go.RowKit
set_option linter.unusedVariables false

/-- A value of one cell. -/
def One (x : Value) : Prop := x.cells = #[x] ∧ x.oneCell' = true
theorem LV.one {O : List Nat} {w : World} {flex : Bool} {x : Value} {k : Leaf} {v : GV} (h : LV O w flex x k v) : One x := by
  cases k <;> cases v <;> simp only [LV] at h <;> try exact h.elim
  · obtain ⟨rfl, -⟩ := h; exact ⟨rfl, rfl⟩
  · obtain ⟨rfl, -⟩ := h; exact ⟨rfl, rfl⟩
  · obtain ⟨rfl, -⟩ := h; exact ⟨rfl, rfl⟩
  · subst h; exact ⟨rfl, rfl⟩
  · obtain ⟨rfl, -⟩ := h; exact ⟨rfl, rfl⟩
  · subst h; exact ⟨rfl, rfl⟩
  · obtain ⟨rfl, -⟩ := h; exact ⟨rfl, rfl⟩
  · obtain ⟨⟨p, q, rfl, -⟩, -⟩ := h; exact ⟨rfl, rfl⟩
  · subst h; exact ⟨rfl, rfl⟩
  · obtain ⟨⟨a, cap, rfl, -⟩, -⟩ := h; exact ⟨rfl, rfl⟩
  · obtain ⟨⟨p, q, rfl, -⟩, -⟩ := h; exact ⟨rfl, rfl⟩
  · subst h; exact ⟨rfl, rfl⟩
theorem run_store_blk {P : Program} {U : Nat} (hU : OneCell P U) {w : World} {b i T : Nat} {c : List Value} {x : Value} (h : Blk w b c T) (hi : i < c.length) (hx : One x) :
    (Instr.storeAt U (.pointer (some ⟨b, i, none⟩)) x).run P w = .ok () (w.setCell ⟨b, i, none⟩ x) := by
  obtain ⟨t, ht, hs⟩ := hU.2
  have h1 := h.cell_some (List.getElem?_eq_getElem hi)
  have h2 := h.frozen i
  have h3 := hx.2
  simp [Instr.storeAt, Instr.sureAddr, storeVar, sizeOf, typeInfo, ht, hs, hx.1, storeCells, Addr.add]
  rw [run_store _ _ _ _ _ h3, h1]
  simp [h2]

/-- Where a walk of readFrom stands: the reader in block rb, the part that is filled in block b; E is what the package's error holds. -/
structure RSt (gE : Nat) (E : Value) (O : List Nat) (w : World) (rb b : Nat) (cs : List Value) (T : Nat) (st : Option (List UInt8)) : Prop where
  rdr : Rdr O w rb st
  blk : Blk w b cs T
  rbO : rb ∈ O
  bO : b ∈ O
  ne : b ≠ rb
  lt : ∀ k, k ∈ O → k < w.heap.size
  glob : w.cell? ⟨gE, 0, none⟩ = some E
  gO : gE ∉ O
section
variable {RT : RTags} {P : Program} {N nt gE : Nat} {E : Value} {K : Slots} {lo t : Nat} {ver : Int} {flex : Bool} {O : List Nat} {w w' : World} {rb b T : Nat} {cs : List Value} {st st' : Option (List UInt8)}
theorem RSt.call (h : RSt gE E O w rb b cs T st) (hr : Rdr O w' rb st') (hk : Keeps [rb] w w') : RSt gE E O w' rb b cs T st' :=
  ⟨hr, h.blk.keeps hk (by simpa using h.ne), h.rbO, h.bO, h.ne, hlt_on h.lt hk, (World.cell?_of_block (hk.block gE (World.block_lt_of_cell? w _ h.glob) (by rintro hx; rw [List.mem_singleton] at hx; exact h.gO (hx ▸ h.rbO)))).trans h.glob, h.gO⟩
theorem RSt.store (h : RSt gE E O w rb b cs T st) (i : Nat) (x : Value) : RSt gE E O (w.setCell ⟨b, i, none⟩ x) rb b (cs.set i x) T st := by
  have hk : Keeps [b] w (w.setCell ⟨b, i, none⟩ x) := (Keeps.refl [b] w).setCell (List.mem_singleton.2 rfl) _
  refine ⟨h.rdr.other hk (by simpa using fun e => h.ne e.symm) (by simpa using h.bO), h.blk.set i x, h.rbO, h.bO, h.ne, hlt_on h.lt hk, ?_, h.gO⟩
  exact (World.cell?_of_block (hk.block gE (World.block_lt_of_cell? w _ h.glob) (by rintro hx; rw [List.mem_singleton] at hx; exact h.gO (hx ▸ h.bO)))).trans h.glob
theorem keeps_rb (hk : Keeps [rb] w w') : Keeps [rb, b] w w' := hk.mono fun k hk => by rw [List.mem_singleton] at hk; simp [hk]
theorem keeps_b (w : World) (i : Nat) (x : Value) : Keeps [rb, b] w (w.setCell ⟨b, i, none⟩ x) := (Keeps.refl [rb, b] w).setCell (p := ⟨b, i, none⟩) (by simp) _
theorem RSt.keepO (h : RSt gE E O w rb b cs T st) {w1 w2 : World} (hk : Keeps [rb, b] w1 w2) : Keeps O w1 w2 := hk.mono fun k hk => by
  simp only [List.mem_cons, List.not_mem_nil, or_false] at hk
  rcases hk with rfl | rfl
  · exact h.rbO
  · exact h.bO
theorem Holds.frR {a a' : Act} (h : Holds K a) (hk : KOK N lo t K) (hD : Dims N nt lo t) (hf : Fr N lo t nt a a') : Holds K a' := fun p hp => by
  have h1 := (hk p hp).2
  have h2 := hD.dLo
  have h3 := hD.dT
  have h4 := hD.dN
  exact (hf.same p.1 (by omega) h1).trans (h p hp)

/-- The code c reads by p, into the cells from i on, below j, of the part whose address lies in slot s; the reader's address lies in slot bp. Where too little is left it may end the call, with the error in slot rs. -/
def RdG (P : Program) (N nt gE : Nat) (E : Value) (K : Slots) (lo t s bp rs : Nat) (c : Code) (p : Pr GV) (Fs : List Value → Nat → Prop) (i j : Nat) (R : List Nat → World → Nat → Nat → GV → Prop) : Prop :=
  ∀ (O : List Nat) (rb b o T : Nat) (a : Act) (w : World) (cs : List Value) (st : Option (List UInt8)) (Q : Exit → Act → World → Prop),
    a.tmps.size = nt → Holds ((s, .pointer (some ⟨b, o, none⟩)) :: (bp, .pointer (some ⟨rb, 0, none⟩)) :: K) a → RSt gE E O w rb b cs T st → Fs cs o →
    (∀ a' w' cs', RSt gE E O w' rb b cs' T ((st.bind p).map (·.2)) → Fr N lo t nt a a' → Keeps [rb, b] w w' → SameOut cs cs' (o + i) (o + j) → (∀ v r, st.bind p = some (v, r) → R O w' b o v) → Q .normal a' w') →
    (∀ a' w', st.bind p = none → a'.tmps.size = nt → a'.defers = a.defers → aget a' rs = E → Keeps [rb, b] w w' → Q .ret a' w') → c.wp P Q a w
/-- A field at cell off. -/
def RdF (RT : RTags) (P : Program) (N nt gE : Nat) (E : Value) (ver : Int) (flex : Bool) (K : Slots) (lo t s bp rs : Nat) (c : Code) (off : Nat) (f : Sch) : Prop :=
  RdG P N nt gE E K lo t s bp rs c (rd ver flex f) (fun cs o => Fresh cs (o + off) f) off (off + top f) (fun O w b o v => Rep RT O w ver flex f b (o + off) v)
def rdV (ver : Int) (flex : Bool) (vlo : Int) (vhi : Option Int) (f : Sch) : Pr GV := if hasV vlo vhi ver then rd ver flex f else .pure .unit
/-- A field, where the version has it. -/
def RdFV (RT : RTags) (P : Program) (N nt gE : Nat) (E : Value) (ver : Int) (flex : Bool) (K : Slots) (lo t s bp rs : Nat) (c : Code) (off : Nat) (vlo : Int) (vhi : Option Int) (f : Sch) : Prop :=
  RdG P N nt gE E K lo t s bp rs c (rdV ver flex vlo vhi f) (fun cs o => Fresh cs (o + off) f) off (off + top f) (fun O w b o v => hasV vlo vhi ver = true → Rep RT O w ver flex f b (o + off) v)
/-- A part, from cell n on. -/
def RdS (RT : RTags) (P : Program) (N nt gE : Nat) (E : Value) (ver : Int) (flex : Bool) (K : Slots) (lo t s bp rs : Nat) (c : Code) (n : Nat) (f : Sch) : Prop :=
  RdG P N nt gE E K lo t s bp rs c (rd ver flex f) (fun cs o => Fresh cs o f) n (top f) (fun O w b o v => Rep RT O w ver flex f b o v)
theorem rd_cons (ver : Int) (flex : Bool) (off : Nat) (vlo : Int) (vhi : Option Int) (f rest : Sch) : rd ver flex (.cons off vlo vhi f rest) = (rdV ver flex vlo vhi f).bind fun v => (rd ver flex rest).bind fun vs => .pure (.cons v vs) := by
  conv => lhs; unfold rd
  unfold rdV
  split
  · rfl
  · rfl
theorem bind2 {p1 p2 : Pr GV} {f : GV → GV → GV} : st.bind (p1.bind fun v => p2.bind fun vs => .pure (f v vs)) = (st.bind p1).bind fun q => (p2 q.2).bind fun r => some (f q.1 r.1, r.2) := by
  rw [bind_st]
  congr 1
  funext q
  cases h : p2 q.2 with
  | none => rw [bind_none h]; rfl
  | some r => rw [bind_eq (r := r.2) (v := r.1) h]; rfl
theorem RdG.seq {s bp rs : Nat} {c1 c2 : Code} {p1 p2 : Pr GV} {f : GV → GV → GV} {Fs F1 F2 : List Value → Nat → Prop} {i1 j1 i2 j2 i j : Nat} {R R1 R2 : List Nat → World → Nat → Nat → GV → Prop}
    (hk : KOK N lo t ((s, .int .i64 0) :: (bp, .int .i64 0) :: K)) (hD : Dims N nt lo t) (h1 : RdG P N nt gE E K lo t s bp rs c1 p1 F1 i1 j1 R1) (h2 : RdG P N nt gE E K lo t s bp rs c2 p2 F2 i2 j2 R2)
    (hF1 : ∀ cs o, Fs cs o → F1 cs o) (hF2 : ∀ cs cs' o, Fs cs o → SameOut cs cs' (o + i1) (o + j1) → F2 cs' o)
    (hR1 : ∀ O w w' b o v, R1 O w b o v → Keeps O w w' → (∀ k, k < o + j1 → w'.cell? ⟨b, k, none⟩ = w.cell? ⟨b, k, none⟩) → R1 O w' b o v) (hR : ∀ O w b o v vs, R1 O w b o v → R2 O w b o vs → R O w b o (f v vs))
    (hij : i ≤ i1 ∧ i ≤ i2 ∧ j1 ≤ j ∧ j2 ≤ j ∧ j1 ≤ i2) : RdG P N nt gE E K lo t s bp rs (c1.seq c2) (p1.bind fun v => p2.bind fun vs => .pure (f v vs)) Fs i j R := by
  intro O rb b o T a w cs st Q hN hh hst hF hq hr
  have hk' : KOK N lo t ((s, .pointer (some ⟨b, o, none⟩)) :: (bp, .pointer (some ⟨rb, 0, none⟩)) :: K) := fun p hp => by
    simp only [List.mem_cons] at hp
    rcases hp with rfl | rfl | hp
    · exact hk (s, .int .i64 0) (by simp)
    · exact hk (bp, .int .i64 0) (by simp)
    · exact hk p (by simp [hp])
  refine wp_seq (h1 O rb b o T a w cs st _ hN hh hst (hF1 _ _ hF) ?_ ?_)
  · intro a1 w1 cs1 hst1 hf1 hk1 hs1 hv1
    refine h2 O rb b o T a1 w1 cs1 _ Q (hf1.size.trans hN) (hh.frR hk' hD hf1) hst1 (hF2 _ _ _ hF hs1) ?_ ?_
    · intro a2 w2 cs2 hst2 hf2 hk2 hs2 hv2
      refine hq a2 w2 cs2 ?_ (hf1.trans hf2) (hk1.trans hk2) (hs1.trans hs2 (by omega) (by omega)) ?_
      · have e : ((st.bind p1).map (·.2)).bind p2 = none ∨ True := .inr trivial
        rw [bind2]
        cases hx : st.bind p1 with
        | none => rw [hx] at hst2; exact hst2
        | some q =>
          rw [hx] at hst2
          change RSt gE E O w2 rb b cs2 T ((p2 q.2).map (·.2)) at hst2
          change RSt gE E O w2 rb b cs2 T (((p2 q.2).bind fun r => some (f q.1 r.1, r.2)).map (·.2))
          cases hy : p2 q.2 with
          | none => rw [hy] at hst2; exact hst2
          | some r => rw [hy] at hst2; exact hst2
      · intro v r hvr
        rw [bind2] at hvr
        cases hx : st.bind p1 with
        | none => rw [hx] at hvr; cases hvr
        | some q =>
          rw [hx] at hvr
          change ((p2 q.2).bind fun r => some (f q.1 r.1, r.2)) = _ at hvr
          cases hy : p2 q.2 with
          | none => rw [hy] at hvr; cases hvr
          | some r2 =>
            rw [hy] at hvr
            simp only [Option.bind_some, Option.some.injEq, Prod.mk.injEq] at hvr
            obtain ⟨rfl, rfl⟩ := hvr
            refine hR _ _ _ _ _ _ (hR1 _ _ _ _ _ _ (hv1 q.1 q.2 hx) (hst.keepO hk2) fun k hk => ?_) (hv2 r2.1 r2.2 (by rw [hx]; exact hy))
            exact hst1.blk.same hst2.blk hs2 k (by omega)
    · intro a2 w2 hn hs hd hE hk2
      refine hr a2 w2 ?_ hs (hd.trans hf1.defers) hE (hk1.trans hk2)
      rw [bind2]
      cases hx : st.bind p1 with
      | none => rfl
      | some q =>
        rw [hx] at hn
        change p2 q.2 = none at hn
        change ((p2 q.2).bind fun r => some (f q.1 r.1, r.2)) = none
        rw [hn]
        rfl
  · intro a1 w1 hn hs hd hE hk1
    refine hr a1 w1 ?_ hs hd hE hk1
    rw [bind2, hn]
    rfl

theorem kokR {s bp : Nat} {x y : Value} (hk : KOK N lo t ((s, .int .i64 0) :: (bp, .int .i64 0) :: K)) : KOK N lo t ((s, x) :: (bp, y) :: K) := fun p hp => by
  simp only [List.mem_cons] at hp
  rcases hp with rfl | rfl | hp
  · exact hk (s, .int .i64 0) (by simp)
  · exact hk (bp, .int .i64 0) (by simp)
  · exact hk p (by simp [hp])
theorem RdG.mono {s bp rs lo' t' : Nat} {c : Code} {p : Pr GV} {Fs : List Value → Nat → Prop} {i j : Nat} {R : List Nat → World → Nat → Nat → GV → Prop} (h : RdG P N nt gE E K lo' t' s bp rs c p Fs i j R) (h1 : lo ≤ lo') (h2 : t ≤ t') : RdG P N nt gE E K lo t s bp rs c p Fs i j R :=
  fun O rb b o T a w cs st Q hN hh hst hF hq hr => h O rb b o T a w cs st Q hN hh hst hF (fun a' w' cs' g1 g2 => hq a' w' cs' g1 (g2.mono h1 h2)) hr
theorem rep_moved (hRT : RTKeep RT) {s : Sch} {off : Nat} : ∀ (O : List Nat) (w w' : World) (b o : Nat) (v : GV), Rep RT O w ver flex s b (o + off) v → Keeps O w w' → (∀ k, k < o + (off + top s) → w'.cell? ⟨b, k, none⟩ = w.cell? ⟨b, k, none⟩) → Rep RT O w' ver flex s b (o + off) v :=
  fun O w w' b o v h hk hc => h.move hRT hk fun i hi => hc _ (by omega)
theorem rdS_cons {s bp rs off n : Nat} {vlo : Int} {vhi : Option Int} {c1 c2 : Code} {f rest : Sch} (hRT : RTKeep RT) (hk : KOK N lo t ((s, .int .i64 0) :: (bp, .int .i64 0) :: K)) (hD : Dims N nt lo t) (ho : ord n (.cons off vlo vhi f rest) = true)
    (h1 : RdFV RT P N nt gE E ver flex K lo t s bp rs c1 off vlo vhi f) (h2 : RdS RT P N nt gE E ver flex K lo t s bp rs c2 (off + top f) rest) : RdS RT P N nt gE E ver flex K lo t s bp rs (c1.seq c2) n (.cons off vlo vhi f rest) := by
  simp only [ord, Bool.and_eq_true, decide_eq_true_eq] at ho
  unfold RdS
  rw [rd_cons]
  refine RdG.seq hk hD h1 h2 (fun cs o h => h.1) (fun cs cs' o h hs => h.2.behind hs ho.2 (by omega) (by omega)) (fun O w w' b o v h hk hc hv => rep_moved hRT O w w' b o v (h hv) hk hc) (fun O w b o v vs h1 h2 => ⟨h1, h2⟩) ?_
  simp only [top]
  omega
theorem RdG.skip {s bp rs : Nat} {Fs : List Value → Nat → Prop} {n : Nat} {v : GV} {R : List Nat → World → Nat → Nat → GV → Prop} (hR : ∀ O w b o, R O w b o v) : RdG P N nt gE E K lo t s bp rs .skip (.pure v) Fs n n R := by
  intro O rb b o T a w cs st Q hN hh hst hF hq hr
  refine wp_skip (hq a w cs ?_ (Fr.refl ..) (Keeps.refl _ _) (SameOut.refl _ _ _) fun v' r h => ?_)
  · cases st <;> exact hst
  · cases st with
    | none => cases h
    | some bs =>
      simp only [Option.bind_some, Pr.pure, Option.some.injEq, Prod.mk.injEq] at h
      obtain ⟨rfl, rfl⟩ := h
      exact hR _ _ _ _
/-- A last field with nothing behind it. -/
theorem rdS_last {s bp rs off n : Nat} {vlo : Int} {vhi : Option Int} {c1 : Code} {f : Sch} (ho : n ≤ off) (h1 : RdFV RT P N nt gE E ver flex K lo t s bp rs c1 off vlo vhi f) : RdS RT P N nt gE E ver flex K lo t s bp rs c1 n (.cons off vlo vhi f .done) := by
  intro O rb b o T a w cs st Q hN hh hst hF hq hr
  have e : st.bind (rd ver flex (.cons off vlo vhi f .done)) = (st.bind (rdV ver flex vlo vhi f)).bind fun q => some (.cons q.1 .unit, q.2) := by
    rw [rd_cons, bind2]
    rfl
  refine h1 O rb b o T a w cs st Q hN hh hst hF.1 (fun a' w' cs' g1 g2 g3 g4 g5 => hq a' w' cs' ?_ g2 g3 ?_ ?_) (fun a' w' hn => hr a' w' ?_)
  · rw [e]
    cases hx : st.bind (rdV ver flex vlo vhi f) with
    | none => rw [hx] at g1; exact g1
    | some q => rw [hx] at g1; exact g1
  · simp only [top]
    exact g4.mono (by omega) (by omega)
  · intro v r hv
    rw [e] at hv
    cases hx : st.bind (rdV ver flex vlo vhi f) with
    | none => rw [hx] at hv; cases hv
    | some q =>
      rw [hx] at hv
      simp only [Option.bind_some, Option.some.injEq, Prod.mk.injEq] at hv
      obtain ⟨rfl, rfl⟩ := hv
      exact ⟨g5 q.1 q.2 hx, trivial⟩
  · rw [e, hn]
    rfl
theorem rdFV_always {s bp rs off : Nat} {vlo : Int} {vhi : Option Int} {c : Code} {f : Sch} (hv : hasV vlo vhi ver = true) (h : RdF RT P N nt gE E ver flex K lo t s bp rs c off f) : RdFV RT P N nt gE E ver flex K lo t s bp rs c off vlo vhi f := by
  unfold RdFV rdV
  rw [if_pos hv]
  exact fun O rb b o T a w cs st Q hN hh hst hF hq hr => h O rb b o T a w cs st Q hN hh hst hF (fun a' w' cs' g1 g2 g3 g4 g5 => hq a' w' cs' g1 g2 g3 g4 fun v r h _ => g5 v r h) hr
/-- Behind a test whose outcome lies in slot x. -/
theorem rdFV_if {s bp rs off x : Nat} {vlo : Int} {vhi : Option Int} {c : Code} {f : Sch} (h : RdF RT P N nt gE E ver flex K lo t s bp rs c off f) :
    ∀ (O : List Nat) (rb b o T : Nat) (a : Act) (w : World) (cs : List Value) (st : Option (List UInt8)) (Q : Exit → Act → World → Prop), aget a x = .bool (hasV vlo vhi ver) →
    a.tmps.size = nt → Holds ((s, .pointer (some ⟨b, o, none⟩)) :: (bp, .pointer (some ⟨rb, 0, none⟩)) :: K) a → RSt gE E O w rb b cs T st → Fresh cs (o + off) f →
    (∀ a' w' cs', RSt gE E O w' rb b cs' T ((st.bind (rdV ver flex vlo vhi f)).map (·.2)) → Fr N lo t nt a a' → Keeps [rb, b] w w' → SameOut cs cs' (o + off) (o + (off + top f)) → (∀ v r, st.bind (rdV ver flex vlo vhi f) = some (v, r) → hasV vlo vhi ver = true → Rep RT O w' ver flex f b (o + off) v) → Q .normal a' w') →
    (∀ a' w', st.bind (rdV ver flex vlo vhi f) = none → a'.tmps.size = nt → a'.defers = a.defers → aget a' rs = E → Keeps [rb, b] w w' → Q .ret a' w') → (Code.cond (.tmp x) c .skip).wp P Q a w := by
  intro O rb b o T a w cs st Q hx hN hh hst hF hq hr
  cases hv : hasV vlo vhi ver
  · rw [hv] at hx
    refine wp_cond_false hx (wp_skip (hq a w cs ?_ (Fr.refl ..) (Keeps.refl _ _) (SameOut.refl _ _ _) fun v' r _ h => by rw [hv] at h; cases h))
    unfold rdV
    rw [if_neg (by rw [hv]; exact fun h => by cases h)]
    cases st <;> exact hst
  · rw [hv] at hx
    exact wp_cond_true hx (rdFV_always (vlo := vlo) (vhi := vhi) hv h O rb b o T a w cs st Q hN hh hst hF hq hr)
theorem rdFV_ge {s bp rs off sv t1 r ty1 ty2 T' U : Nat} {p1 p2 : String} {e1 e2 : Array Edge} {n : Int} {c : Code} {f : Sch} (hk : KOK N lo t ((s, .int .i64 0) :: (bp, .int .i64 0) :: K)) (hsv : (sv, Value.int .i16 ver) ∈ K) (hD : Dims N nt lo t) (hd : t ≤ t1 ∧ t1 + 1 < nt)
    (h : RdF RT P N nt gE E ver flex K lo t s bp rs c off f) :
    RdFV RT P N nt gE E ver flex K lo t s bp rs ((Code.region r #[⟨some t1, .move (.tmp sv), ty1, p1, e1, none⟩, ⟨some (t1 + 1), .binOp .geq T' (.tmp t1) (.const (.int .i16 n)) U, ty2, p2, e2, none⟩] false).seq (.cond (.tmp (t1 + 1)) c .skip)) off n none f := by
  intro O rb b o T a w cs st Q hN hh hst hF hq hr
  refine wp_seq (reg_cmp (x0 := nt) (lo := lo) (b := hasV n none ver) hN (hh _ (List.mem_cons_of_mem _ (List.mem_cons_of_mem _ hsv))) ⟨hD.dT, hd.1, hd.2, hD.dLo⟩ (fun w => by rw [run_cmp_i16]; simp [hasV]) fun a' hfr hx => ?_)
  exact rdFV_if h O rb b o T a' w cs st Q hx (hfr.size.trans hN) (hh.frR (kokR hk) hD hfr) hst hF (fun a2 w2 cs2 g1 g2 => hq a2 w2 cs2 g1 (hfr.trans g2)) (fun a2 w2 g1 g2 g3 => hr a2 w2 g1 g2 (g3.trans hfr.defers))
theorem rdFV_range {s bp rs off sv t1 r ty1 ty2 ty3 ty4 ty5 ty6 T' U T'' U' : Nat} {p1 p2 p3 p4 p5 p6 : String} {e1 e2 e3 e4 e5 e6 : Array Edge} {n m : Int} {c : Code} {f : Sch} (hk : KOK N lo t ((s, .int .i64 0) :: (bp, .int .i64 0) :: K)) (hsv : (sv, Value.int .i16 ver) ∈ K) (hsl : sv < t1) (hD : Dims N nt lo t) (hd : t ≤ t1 ∧ t1 + 5 < nt)
    (h : RdF RT P N nt gE E ver flex K lo t s bp rs c off f) :
    RdFV RT P N nt gE E ver flex K lo t s bp rs ((Code.region r #[⟨some t1, .move (.tmp sv), ty1, p1, e1, none⟩, ⟨some (t1 + 1), .binOp .geq T' (.tmp t1) (.const (.int .i16 n)) U, ty2, p2, e2, none⟩, ⟨some (t1 + 2), .move (.tmp (t1 + 1)), ty3, p3, e3, none⟩,
      ⟨some (t1 + 3), .move (.tmp sv), ty4, p4, e4, some (2, true)⟩, ⟨some (t1 + 4), .binOp .leq T'' (.tmp (t1 + 3)) (.const (.int .i16 m)) U', ty5, p5, e5, some (2, true)⟩,
      ⟨some (t1 + 5), .pick (.tmp (t1 + 2)) (.tmp (t1 + 4)) (.const (.bool false)), ty6, p6, e6, none⟩] false).seq (.cond (.tmp (t1 + 5)) c .skip)) off n (some m) f := by
  intro O rb b o T a w cs st Q hN hh hst hF hq hr
  refine wp_seq (reg_range (x0 := nt) (lo := lo) hN (hh _ (List.mem_cons_of_mem _ (List.mem_cons_of_mem _ hsv))) ⟨hD.dT, hd.1, hd.2, hD.dLo, by omega, by omega, by omega⟩ fun a' hfr hx => ?_)
  exact rdFV_if h O rb b o T a' w cs st Q hx (hfr.size.trans hN) (hh.frR (kokR hk) hD hfr) hst hF (fun a2 w2 cs2 g1 g2 => hq a2 w2 cs2 g1 (hfr.trans g2)) (fun a2 w2 g1 g2 g3 => hr a2 w2 g1 g2 (g3.trans hfr.defers))

/-- The code c reads a value of a kind into slot u. -/
def RdL (P : Program) (N nt gE : Nat) (E : Value) (ver : Int) (flex : Bool) (K : Slots) (lo t bp : Nat) (c : Code) (u : Nat) (lf : Leaf) : Prop :=
  ∀ (O : List Nat) (rb b T : Nat) (a : Act) (w : World) (cs : List Value) (st : Option (List UInt8)) (Q : Exit → Act → World → Prop), a.tmps.size = nt → Holds ((bp, .pointer (some ⟨rb, 0, none⟩)) :: K) a → RSt gE E O w rb b cs T st →
    (∀ a' w' x, aget a' u = x → One x → RSt gE E O w' rb b cs T ((st.bind (rdLeaf ver flex lf)).map (·.2)) → Fr N lo t nt a a' → Keeps [rb] w w' → (∀ v r, st.bind (rdLeaf ver flex lf) = some (v, r) → LV O w' flex x lf v) → Q .normal a' w') → c.wp P Q a w
/-- Function F reads a kind. -/
def LeafRd (P : Program) (ver : Int) (flex : Bool) (F : Nat) (lf : Leaf) : Prop := RdC P F (rdLeaf ver flex lf) (fun O w v g => LV O w flex v lf g) One
theorem rdL_call {bp u t1 F r ty1 ty2 : Nat} {p1 p2 : String} {e1 e2 : Array Edge} {at_ : Array TypeId} {lf : Leaf} (he : Enters P F) (hC : LeafRd P ver flex F lf) (hD : Dims N nt lo t) (hd : t ≤ t1 ∧ t1 < nt ∧ lo ≤ u ∧ u < N) :
    RdL P N nt gE E ver flex K lo t bp (Code.region r #[⟨some t1, .call { callee := .value (.func F), args := #[.tmp bp], argTypes := at_ }, ty1, p1, e1, none⟩, ⟨some u, .assign (.tmp t1), ty2, p2, e2, none⟩] false) u lf := by
  intro O rb b T a w cs st Q hN hh hst hq
  obtain ⟨d1, d2, d3, d4⟩ := hd
  have g2 := hD.dLo; have g3 := hD.dT; have g4 := hD.dN
  refine wp_reg ?_
  refine wl_call (R := RdPost (rdLeaf ver flex lf) (fun O w v g => LV O w flex v lf g) One O rb w st) he ?_ ?_
  · simp only [List.map_toArray, List.map_cons, List.map_nil, aget_eval]
    rw [hh.head]
    exact hC O rb w st hst.rbO hst.lt hst.rdr
  rintro e w' ⟨v, rfl, hr, hk, hbad, hgood⟩
  refine ⟨v, rfl, ?_⟩
  refine wl_assign (aget_put_same _ _ _ (by rw [hN]; omega)) ?_
  refine wpList_nil (hq _ w' v (aget_put_same _ _ _ (by simp only [size_put]; omega)) ?_ (hst.call hr hk) (((Fr.refl N lo t nt a).put _ _ (by omega)).put _ _ (by omega)) hk hgood)
  cases hx : st.bind (rdLeaf ver flex lf) with
  | none => exact hbad hx
  | some q => exact (hgood q.1 q.2 hx).one
theorem rdL_flag {bp u sf t1 r ty1 : Nat} {p1 : String} {e1 : Array Edge} {c1 c2 : Code} {lf : Leaf} {fl : Bool} (hk : KOK N lo t ((bp, .int .i64 0) :: K)) (hf : (sf, Value.bool fl) ∈ K) (hD : Dims N nt lo t) (hd : t ≤ t1 ∧ t1 < nt)
    (h1 : fl = true → RdL P N nt gE E ver flex K lo t bp c1 u lf) (h2 : fl = false → RdL P N nt gE E ver flex K lo t bp c2 u lf) :
    RdL P N nt gE E ver flex K lo t bp ((Code.region r #[⟨some t1, .move (.tmp sf), ty1, p1, e1, none⟩] false).seq (.cond (.tmp t1) c1 c2)) u lf := by
  intro O rb b T a w cs st Q hN hh hst hq
  have hk' : KOK N lo t ((bp, .pointer (some ⟨rb, 0, none⟩)) :: K) := fun p hp => by
    simp only [List.mem_cons] at hp
    rcases hp with rfl | hp
    · exact hk (bp, .int .i64 0) (by simp)
    · exact hk p (by simp [hp])
  refine wp_seq (reg_flag (x0 := nt) (lo := lo) hN (hh _ (List.mem_cons_of_mem _ hf)) ⟨hD.dT, hd.1, hd.2, hD.dLo⟩ fun a' hfr hx => ?_)
  cases fl
  · exact wp_cond_false hx (h2 rfl O rb b T a' w cs st Q (hfr.size.trans hN) (hh.frR hk' hD hfr) hst fun a2 w2 x g1 g2 g3 g4 => hq a2 w2 x g1 g2 g3 (hfr.trans g4))
  · exact wp_cond_true hx (h1 rfl O rb b T a' w cs st Q (hfr.size.trans hN) (hh.frR hk' hD hfr) hst fun a2 w2 x g1 g2 g3 g4 => hq a2 w2 x g1 g2 g3 (hfr.trans g4))

/-- 's.F = v'. -/
theorem reg_store {s v t1 T' k U off r ty1 ty2 ty3 ty4 ty5 : Nat} {p1 p2 p3 p4 p5 : String} {e1 e2 e3 e4 e5 : Array Edge} {a : Act} {o : Nat} {x : Value} {Q : Exit → Act → World → Prop}
    (hT : FieldAt P T' k off) (hU : OneCell P U) (hN : a.tmps.size = nt) (hs : aget a s = .pointer (some ⟨b, o, none⟩)) (hv : aget a v = x) (hx : One x) (hb : Blk w b cs T) (hlt : o + off < cs.length) (hD : Dims N nt lo t) (hd : t ≤ t1 ∧ t1 + 3 < nt ∧ v ≠ t1)
    (h : ∀ a', Fr N lo t nt a a' → Q .normal a' (w.setCell ⟨b, o + off, none⟩ x)) :
    (Code.region r #[⟨some t1, .move (.tmp s), ty1, p1, e1, none⟩, ⟨some (t1 + 1), .move (.tmp v), ty2, p2, e2, none⟩, ⟨some (t1 + 2), .nilCheck (.tmp t1), ty3, p3, e3, none⟩, ⟨some (t1 + 3), .fieldAddr T' (.tmp (t1 + 2)) k, ty4, p4, e4, none⟩,
      ⟨none, .store U (.tmp (t1 + 3)) (.tmp (t1 + 1)), ty5, p5, e5, none⟩] false).wp P Q a w := by
  obtain ⟨d1, d2, d3⟩ := hd
  have g2 := hD.dLo; have g3 := hD.dT; have g4 := hD.dN
  refine wp_reg ?_
  refine wl_move hs ?_
  refine wl_move (v := x) (by rw [aget_put_other _ _ _ _ (by omega)]; exact hv) ?_
  refine wl_nilCheck (ad := ⟨b, o, none⟩) (by rw [aget_put_other _ _ _ _ (by omega)]; exact aget_put_same _ _ _ (by rw [hN]; omega)) ?_
  refine wl_fieldAddr hT (aget_put_same _ _ _ (by simp only [size_put, hN]; omega)) ?_
  rw [Addr.add_lit]
  refine wl_store (w' := w.setCell ⟨b, o + off, none⟩ x) ?_ ?_
  · rw [aget_eval, aget_eval, aget_put_same _ _ _ (by simp only [size_put, hN]; omega), aget_put_other _ _ _ _ (by omega), aget_put_other _ _ _ _ (by omega), aget_put_same _ _ _ (by simp only [size_put, hN]; omega)]
    exact run_store_blk hU hb hlt hx
  · exact wpList_nil (h _ (((((Fr.refl N lo t nt a).put _ _ (by omega)).put _ _ (by omega)).put _ _ (by omega)).put _ _ (by omega)))
/-- '{ v := b.F(); s.F = v }'. -/
theorem rdF_leaf {s bp rs v t1 t2 T' k U off r ty1 ty2 ty3 ty4 ty5 : Nat} {p1 p2 p3 p4 p5 : String} {e1 e2 e3 e4 e5 : Array Edge} {c : Code} {lf : Leaf}
    (hk : KOK N lo t ((s, .int .i64 0) :: (bp, .int .i64 0) :: K)) (hT : FieldAt P T' k off) (hU : OneCell P U) (hD : Dims N nt lo t) (hd : t ≤ t1 ∧ t1 + 3 < nt ∧ v ≠ t1) (hlf : lf ≠ .uuid) (h : RdL P N nt gE E ver flex K lo t bp c v lf) :
    RdF RT P N nt gE E ver flex K lo t s bp rs (c.seq (Code.region r #[⟨some t1, .move (.tmp s), ty1, p1, e1, none⟩, ⟨some (t1 + 1), .move (.tmp v), ty2, p2, e2, none⟩, ⟨some (t1 + 2), .nilCheck (.tmp t1), ty3, p3, e3, none⟩, ⟨some (t1 + 3), .fieldAddr T' (.tmp (t1 + 2)) k, ty4, p4, e4, none⟩,
      ⟨none, .store U (.tmp (t1 + 3)) (.tmp (t1 + 1)), ty5, p5, e5, none⟩] false)) off (.leaf lf) := by
  intro O rb b o T a w cs st Q hN hh hst hF hq hr
  have hl : o + off < cs.length := by cases lf <;> first | exact hF | exact absurd rfl hlf
  have ht : top (.leaf lf) = 1 := by cases lf <;> first | rfl | exact absurd rfl hlf
  refine wp_seq (h O rb b T a w cs st _ hN hh.tail hst fun a1 w1 x hx hone hst1 hf1 hk1 hlv => ?_)
  have hh1 := hh.frR (kokR hk) hD hf1
  refine reg_store hT hU (hf1.size.trans hN) hh1.head hx hone hst1.blk hl hD hd fun a2 hf2 => ?_
  refine hq a2 _ _ (hst1.store (o + off) x) (hf1.trans hf2) ((keeps_rb hk1).trans (keeps_b w1 _ _)) ?_ ?_
  · rw [ht]
    exact SameOut.set cs (o + off) x
  · intro v r hv
    have hb : Keeps O w1 (w1.setCell ⟨b, o + off, none⟩ x) := (Keeps.refl O w1).setCell hst.bO _
    exact ((hlv v r hv).keeps hb).rep ((hst1.blk.set (o + off) x).cell_some (by rw [List.getElem?_set_self hl]))
/-- 'var v T' ahead of it. -/
theorem rdL_var {bp u r ty1 : Nat} {p1 : String} {e1 : Array Edge} {c : Code} {lf : Leaf} {z : Value} (hk : KOK N lo t ((bp, .int .i64 0) :: K)) (hD : Dims N nt lo t) (hd : lo ≤ u ∧ u < N) (h : RdL P N nt gE E ver flex K lo t bp c u lf) :
    ∀ {c2 : Code} {s rs off : Nat}, RdF RT P N nt gE E ver flex K lo t s bp rs (c.seq c2) off (.leaf lf) → KOK N lo t ((s, .int .i64 0) :: (bp, .int .i64 0) :: K) → RdF RT P N nt gE E ver flex K lo t s bp rs ((Code.region r #[⟨some u, .assign (.const z), ty1, p1, e1, none⟩] false).seq (c.seq c2)) off (.leaf lf) := by
  intro c2 s rs off hF hk2 O rb b o T a w cs st Q hN hh hst hFr hq hr
  refine wp_seq (wp_reg (wl_assign_c (wpList_nil ?_)))
  have hf : Fr N lo t nt a (a.put (some u) z) := (Fr.refl N lo t nt a).put _ _ (by omega)
  exact hF O rb b o T _ w cs st Q (hf.size.trans hN) (hh.frR (kokR hk2) hD hf) hst hFr (fun a2 w2 cs2 g1 g2 => hq a2 w2 cs2 g1 (hf.trans g2)) (fun a2 w2 g1 g2 g3 => hr a2 w2 g1 g2 (g3.trans hf.defers))
end
end Go.Proofs.YtmpilpgabelmiaaGreatDoor

/- The code that reads a list. -/
namespace Go.Proofs.YtmpilpgabelmiaaGreatDoor
open Go Go.RowKit
set_option linter.unusedVariables false

/-! Many things, the last one told apart. -/
theorem many_snoc {α : Type} (p : Pr α) : ∀ (n : Nat) (bs : List UInt8), rdMany p (n + 1) bs = ((rdMany p n).bind fun l => p.bind fun v => .pure (l ++ [v])) bs
  | 0, bs => by
    change (p.bind fun v => (rdMany p 0).bind fun l => .pure (v :: l)) bs = (p.bind fun v => .pure ([] ++ [v])) bs
    rfl
  | n + 1, bs => by
    change (p.bind fun v => (rdMany p (n + 1)).bind fun l => .pure (v :: l)) bs = _
    cases hp : p bs with
    | none =>
      rw [bind_none hp, bind_none]
      exact bind_none hp
    | some q =>
      obtain ⟨v, r⟩ := q
      rw [bind_eq hp]
      have ih := many_snoc p n r
      cases hm : rdMany p n r with
      | none =>
        have h1 : rdMany p (n + 1) bs = none := by
          change (p.bind fun v => (rdMany p n).bind fun l => .pure (v :: l)) bs = none
          rw [bind_eq hp]
          exact bind_none hm
        rw [bind_none h1]
        rw [bind_none hm] at ih
        exact bind_none ih
      | some q2 =>
        obtain ⟨l, r2⟩ := q2
        have h1 : rdMany p (n + 1) bs = some (v :: l, r2) := by
          change (p.bind fun v => (rdMany p n).bind fun l => .pure (v :: l)) bs = _
          rw [bind_eq hp]
          exact bind_eq hm
        rw [bind_eq h1]
        rw [bind_eq hm] at ih
        cases hv : p r2 with
        | none =>
          rw [bind_none hv] at ih
          rw [bind_none hv]
          exact bind_none ih
        | some q3 =>
          obtain ⟨u, r3⟩ := q3
          rw [bind_eq hv] at ih
          rw [bind_eq hv]
          exact bind_eq ih
theorem many_none {α : Type} {p : Pr α} {bs : List UInt8} {k : Nat} (h : rdMany p k bs = none) : ∀ {n : Nat}, k ≤ n → rdMany p n bs = none
  | 0, hn => by
    obtain rfl : k = 0 := by omega
    exact h
  | n + 1, hn => by
    by_cases hk : k = n + 1
    · rw [← hk]; exact h
    · rw [many_snoc]
      exact bind_none (many_none h (by omega))
theorem st_snoc {α : Type} (p : Pr α) (st : Option (List UInt8)) (n : Nat) : st.bind (rdMany p (n + 1)) = (st.bind (rdMany p n)).bind fun q => (p q.2).bind fun r => some (q.1 ++ [r.1], r.2) := by
  cases st with
  | none => rfl
  | some bs =>
    change rdMany p (n + 1) bs = (rdMany p n bs).bind _
    rw [many_snoc]
    cases h : rdMany p n bs with
    | none => rw [bind_none h]; rfl
    | some q =>
      obtain ⟨l, r⟩ := q
      rw [bind_eq h]
      change _ = (p r).bind _
      cases h2 : p r with
      | none => rw [bind_none h2]; rfl
      | some q2 => rw [bind_eq (v := q2.1) (r := q2.2) h2]; rfl
theorem st_none {α : Type} {p : Pr α} {st : Option (List UInt8)} {k n : Nat} (h : st.bind (rdMany p k) = none) (hn : k ≤ n) : st.bind (rdMany p n) = none := by
  cases st with
  | none => rfl
  | some bs => exact many_none h hn

/-! Fresh cells. -/
theorem Fresh.congr : ∀ {s : Sch} {c c' : List Value} {o o' : Nat}, Fresh c o s → (∀ j, j < top s → c'[o' + j]? = c[o + j]?) → Fresh c' o' s
  | .leaf k, c, c', o, o', h, hj => by
    have hlen : ∀ j, j < top (.leaf k) → o + j < c.length → o' + j < c'.length := fun j hj' hl => by
      have h1 := hj j hj'
      rw [List.getElem?_eq_getElem hl] at h1
      exact (List.getElem?_eq_some_iff.1 h1).1
    cases k <;> simp only [Fresh] at h ⊢
    case uuid => have := hlen 15 (by decide) (by omega); omega
    all_goals (have := hlen 0 Nat.zero_lt_one (by omega); omega)
  | .list _ _ _, c, c', o, o', h, hj => (hj 0 Nat.zero_lt_one).trans h
  | .opt _, c, c', o, o', h, hj => (hj 0 Nat.zero_lt_one).trans h
  | .done, _, _, _, _, _, _ => trivial
  | .tags off, c, c', o, o', h, hj => (hj off (by simp [top])).trans h
  | .cons off lo hi f rest, c, c', o, o', h, hj => by
    refine ⟨Fresh.congr h.1 fun j hj' => ?_, Fresh.congr h.2 fun j hj' => hj j (by simp only [top]; omega)⟩
    rw [Nat.add_assoc, Nat.add_assoc]
    exact hj (off + j) (by simp only [top]; omega)
  | .ktag off d f rest, c, c', o, o', h, hj => by
    refine ⟨fun k u hk => ?_, Fresh.congr h.2 fun j hj' => hj j (by simp only [top]; omega)⟩
    have h1 := (List.getElem?_eq_some_iff.1 hk).1
    have h2 := dcells_le f d
    have h3 := h.1 k u hk
    rw [Nat.add_assoc] at h3 ⊢
    exact (hj (off + k) (by simp only [top]; omega)).trans h3
theorem zero_at {z : Array Value} {n k j : Nat} (hk : k < n) (hj : j < z.size) : (Builtin.zeroCells z n).toList[k * z.size + j]? = z.toList[j]? := by
  have h1 : k * z.size + j < n * z.size := by
    have := Nat.mul_le_mul_right z.size (show k + 1 ≤ n by omega)
    rw [Nat.add_mul, Nat.one_mul] at this
    omega
  have h2 : (k * z.size + j) % z.size = j := by
    rw [Nat.mul_comm, Nat.mul_add_mod, Nat.mod_eq_of_lt hj]
  simp [Builtin.zeroCells, h1, h2, hj]
/-- The cells of a list that has just been made. -/
theorem made_fresh {z : Array Value} {n m k : Nat} {e : Sch} (hf : Fresh z.toList 0 e) (ht : top e ≤ z.size) (hk : k < n) : Fresh ((Builtin.zeroCells z n ++ Builtin.zeroCells z m).toList) (k * z.size) e := by
  refine hf.congr fun j hj => ?_
  rw [Nat.zero_add, Array.toList_append, List.getElem?_append_left]
  · exact zero_at hk (by omega)
  · rw [Array.length_toList, size_zeroCells]
    have := Nat.mul_le_mul_right z.size (show k + 1 ≤ n by omega)
    rw [Nat.add_mul, Nat.one_mul] at this
    omega
theorem run_append_zeros {P : Program} (w : World) (t tn ty e : TypeId) (i : TypeInfo) (z : Value) (k kn : IntKind) (ht : P.underlying t = some (.slice e)) (htn : P.underlying tn = some (.int kn)) (hi : P.info? e = some i) (hz : i.zero = some z)
    (base : Option Addr) (n : Nat) (h0 : 0 < n) (hs : 0 < i.size) (h63 : (n : Int) ≤ 9223372036854775807) (h48 : n * i.bytes ≤ 281474976710656) :
    (Builtin.append_ #[t, tn] ty #[.slice base 0 0, .int k n]).run P w =
      .ok (.slice (some ⟨w.heap.size, 0, none⟩) n (grownCap w n 0 e)) (w.drew.alloc (.cells (Builtin.zeroCells z.cells n ++ Builtin.zeroCells z.cells (grownCap w n 0 e - n)) e)) := by
  have hn : n ≠ 0 := by omega
  have hw : IntKind.i64.wrap (n : Int) = n := by rw [IntKind.wrap_i64]; omega
  have h63' : ¬ (9223372036854775807 < (n : Int)) := by omega
  have h48' : ¬ (281474976710656 < Builtin.nextslicecap n 0 * i.bytes) := by rw [nextslicecap_zero h0]; omega
  have h48i : ¬ (281474976710656 < (n : Int) * (i.bytes : Int)) := by
    rw [← Int.natCast_mul]
    omega
  have hneg : ¬ ((n : Int) < 0) := by omega
  have hns : ¬ (n * i.size = 0) := Nat.mul_ne_zero hn (by omega)
  cases base with
  | none => simp [Builtin.append_, run_underlying ht, run_underlying htn, sizeOf, typeInfo, zeroValue, hi, hz, asInt, asIntOf, hw, hn, hneg, hns, h63', h48', h48i, Question.forced, run_firstCells_none, newRow, grownCap]
  | some ad =>
    have hf : (Builtin.firstCells i.size 0 (.slice (some ad) 0 0)).run P w.drew = .ok #[] w.drew := run_firstCells_some w.drew i.size 0 ad 0 0 [] (by simp) (by intro _ _ h'; simp at h')
    simp [Builtin.append_, run_underlying ht, run_underlying htn, sizeOf, typeInfo, zeroValue, hi, hz, asInt, asIntOf, hw, hn, hneg, hns, h63', h48', h48i, Question.forced, hf, newRow, grownCap]
end Go.Proofs.YtmpilpgabelmiaaGreatDoor

/- The code that reads a list: the loop. -/
namespace Go.Proofs.YtmpilpgabelmiaaGreatDoor
open Go Go.RowKit
set_option linter.unusedVariables false

section
variable {RT : RTags} {P : Program} {N nt gE : Nat} {E : Value} {K : Slots} {lo t : Nat} {ver : Int} {flex : Bool}
theorem wl_index32 {w : World} {ops : Array Oper} {rest : List Oper} {a : Act} {Q : Exit → Act → World → Prop} {d : Nat} {ty : TypeId} {pos : String} {af : Array Edge} {t e s s' esz : Nat} (ht : P.underlying t = some (.slice e)) (he : ∃ i, P.info? e = some i ∧ i.size = esz) {ad : Addr} {n c : Nat} {k : Nat} (hk : k < n) (hs : aget a s = .slice (some ad) n c) (hs' : aget a s' = .int .i32 k)
    (h : wpList P ops Q rest (a.put (some d) (.pointer (some (ad.add (k * esz))))) w) : wpList P ops Q (⟨some d, .indexAddr t (.tmp s) (.tmp s'), ty, pos, af, none⟩ :: rest) a w := by
  obtain ⟨i, hi, rfl⟩ := he
  refine wl_value (v := .pointer (some (ad.add (k * i.size)))) (w' := w) rfl ?_ h
  have h1 : (0 : Int) ≤ k ∧ (k : Int) < n := by omega
  simp [execOp, aget_eval, hs, hs', Instr.indexAt, asIntOf, run_underlying ht, sizeOf, typeInfo, hi, h1]
  exact fun hx => absurd hx (by omega)

/-- One thing of a list that lies in block p: slot u holds the list, slot i its place. -/
def RdEl (RT : RTags) (P : Program) (N nt gE : Nat) (E : Value) (ver : Int) (flex : Bool) (K : Slots) (lo t u i bp rs : Nat) (c : Code) (esz : Nat) (e : Sch) : Prop :=
  ∀ (O : List Nat) (rb p T n cap k : Nat) (a : Act) (w : World) (cs : List Value) (st : Option (List UInt8)) (Q : Exit → Act → World → Prop),
    a.tmps.size = nt → Holds ((i, .int .i32 (k : Nat)) :: (u, .slice (some ⟨p, 0, none⟩) n cap) :: (bp, .pointer (some ⟨rb, 0, none⟩)) :: K) a → k < n → RSt gE E O w rb p cs T st → Fresh cs (k * esz) e →
    (∀ a' w' cs', RSt gE E O w' rb p cs' T ((st.bind (rd ver flex e)).map (·.2)) → Fr N lo t nt a a' → Keeps [rb, p] w w' → SameOut cs cs' (k * esz) (k * esz + esz) → (∀ v r, st.bind (rd ver flex e) = some (v, r) → Rep RT O w' ver flex e p (k * esz) v) → Q .normal a' w') →
    (∀ a' w', st.bind (rd ver flex e) = none → a'.tmps.size = nt → a'.defers = a.defers → aget a' rs = E → Keeps [rb, p] w w' → Q .ret a' w') → c.wp P Q a w

/-- What the loop knows behind k rounds. -/
structure LpInv (RT : RTags) (nt gE : Nat) (E : Value) (ver : Int) (flex : Bool) (N lo t u i l : Nat) (O : List Nat) (rb p T n cap esz : Nat) (e : Sch) (st : Option (List UInt8)) (a1 : Act) (w1 : World) (cs1 : List Value) (k : Nat) (cs : List Value) (a : Act) (w : World) : Prop where
  le : k ≤ n
  fr : Fr N lo t nt a1 a
  si : aget a i = .int .i32 (k : Nat)
  sl : aget a l = .int .i32 (n : Nat)
  su : aget a u = .slice (some ⟨p, 0, none⟩) n cap
  rst : RSt gE E O w rb p cs T ((st.bind (rdMany (rd ver flex e) k)).map (·.2))
  fresh : ∀ j, k ≤ j → j < n → Fresh cs (j * esz) e
  keeps : Keeps [rb, p] w1 w
  done : ∀ vs r, st.bind (rdMany (rd ver flex e) k) = some (vs, r) → vs.length = k ∧ ∀ j v, vs[j]? = some v → Rep RT O w ver flex e p (j * esz) v

theorem rd_for {u i l bp rs t2 t4 B B' r1 r2 r4 T2 U2 T3 U3 ty1 ty2 ty3 ty4 ty5 ty6 ty7 lo' t' esz : Nat} {p1 p2 p3 p4 p5 p6 p7 : String} {e1 e2 e3 e4 e5 e6 e7 : Array Edge} {c : Code} {e : Sch}
    (hRT : RTKeep RT) (hk : KOK N lo t ((bp, .int .i64 0) :: K)) (hD : Dims N nt lo t) (hD' : Dims N nt lo' t') (hd : t ≤ t2 ∧ t2 + 2 < nt ∧ t ≤ t4 ∧ t4 + 1 < nt ∧ lo ≤ u ∧ u < N ∧ lo ≤ l ∧ l < N ∧ lo ≤ i ∧ i < N ∧ u < lo' ∧ l < lo' ∧ i < lo' ∧ lo ≤ lo' ∧ t ≤ t' ∧ u ≠ i ∧ l ≠ i ∧ u ≠ l) (hB : B ≠ B') (htop : top e ≤ esz) (hesz : 0 < esz)
    (h : RdEl RT P N nt gE E ver flex K lo' t' u i bp rs c esz e) (O : List Nat) (rb p T n cap : Nat) (a : Act) (w : World) (cs : List Value) (st : Option (List UInt8)) (Q : Exit → Act → World → Prop)
    (hN : a.tmps.size = nt) (hh : Holds ((bp, .pointer (some ⟨rb, 0, none⟩)) :: K) a) (hn : n ≤ 2147483647) (hst : RSt gE E O w rb p cs T st) (hl : aget a l = .int .i32 (n : Nat)) (hu : aget a u = .slice (some ⟨p, 0, none⟩) n cap) (hF : ∀ j, j < n → Fresh cs (j * esz) e)
    (hq : ∀ a' w' cs', RSt gE E O w' rb p cs' T ((st.bind (rdMany (rd ver flex e) n)).map (·.2)) → Fr N lo t nt a a' → aget a' u = .slice (some ⟨p, 0, none⟩) n cap → Keeps [rb, p] w w' → (∀ vs r, st.bind (rdMany (rd ver flex e) n) = some (vs, r) → vs.length = n ∧ ∀ j v, vs[j]? = some v → Rep RT O w' ver flex e p (j * esz) v) → Q .normal a' w')
    (hr : ∀ a' w', st.bind (rdMany (rd ver flex e) n) = none → a'.tmps.size = nt → a'.defers = a.defers → aget a' rs = E → Keeps [rb, p] w w' → Q .ret a' w') :
    ((Code.region r1 #[⟨some i, .assign (.const (.int .i32 0)), ty1, p1, e1, none⟩] false).seq (.block B (.loop
      (((Code.region r2 #[⟨some t2, .move (.tmp i), ty2, p2, e2, none⟩, ⟨some (t2 + 1), .move (.tmp l), ty3, p3, e3, none⟩, ⟨some (t2 + 2), .binOp .lss T2 (.tmp t2) (.tmp (t2 + 1)) U2, ty4, p4, e4, none⟩] false).seq (.cond (.tmp (t2 + 2)) .skip (.exit B))).seq
        ((Code.block B' c).seq (.region r4 #[⟨some t4, .move (.tmp i), ty5, p5, e5, none⟩, ⟨some (t4 + 1), .binOp .add T3 (.tmp t4) (.const (.int .i32 1)) U3, ty6, p6, e6, none⟩, ⟨some i, .assign (.tmp (t4 + 1)), ty7, p7, e7, none⟩] false)))))).wp P Q a w := by
  obtain ⟨d1, d2, d3, d4, d5, d6, d7, d8, d9, d10, d11, d12, d13, d14, d15, d16, d17, d18⟩ := hd
  have g1 := hD.dOne; have g2 := hD.dLo; have g3 := hD.dT; have g4 := hD.dN
  have hk' : KOK N lo t ((bp, .pointer (some ⟨rb, 0, none⟩)) :: K) := fun q hq => by
    simp only [List.mem_cons] at hq
    rcases hq with rfl | hq
    · exact hk (bp, .int .i64 0) (by simp)
    · exact hk q (by simp [hq])
  refine wp_seq (wp_reg (wl_assign_c (wpList_nil ?_)))
  generalize ha1 : Act.put a (some i) (.int .i32 0) = a1
  have hf1 : Fr N lo t nt a a1 := by rw [← ha1]; exact (Fr.refl N lo t nt a).put _ _ (by omega)
  have hN1 : a1.tmps.size = nt := hf1.size.trans hN
  have inv0 : LpInv RT nt gE E ver flex N lo t u i l O rb p T n cap esz e st a1 w cs 0 cs a1 w := by
    refine ⟨Nat.zero_le _, Fr.refl .., ?_, ?_, ?_, ?_, fun j _ hj => hF j hj, Keeps.refl _ _, ?_⟩
    · rw [← ha1]; exact aget_put_same _ _ _ (by omega)
    · rw [← ha1, aget_put_other _ _ _ _ (by omega)]; exact hl
    · rw [← ha1, aget_put_other _ _ _ _ (by omega)]; exact hu
    · cases st <;> exact hst
    · intro vs r hv
      cases st with
      | none => cases hv
      | some bs =>
        simp only [Option.bind_some, rdMany, Pr.pure, Option.some.injEq, Prod.mk.injEq] at hv
        obtain ⟨rfl, rfl⟩ := hv
        exact ⟨rfl, fun j v hj => by simp at hj⟩
  clear ha1
  refine wp_block ?_
  refine wp_loop (fun a' w' => ∃ k cs', LpInv RT nt gE E ver flex N lo t u i l O rb p T n cap esz e st a1 w cs k cs' a' w') (fun a' _ => n - (intOf (aget a' i)).toNat) ⟨0, cs, inv0⟩ ?_
  rintro a2 w2 ⟨k, cs2, I⟩
  have hN2 : a2.tmps.size = nt := I.fr.size.trans hN1
  have hh2 : Holds ((bp, .pointer (some ⟨rb, 0, none⟩)) :: K) a2 := (hh.frR hk' hD hf1).frR hk' hD I.fr
  refine wp_seq (wp_seq (wp_reg ?_))
  refine wl_move I.si ?_
  refine wl_move (v := .int .i32 (n : Nat)) (by rw [aget_put_other _ _ _ _ (by omega)]; exact I.sl) ?_
  refine wl_bin2 (r := .bool (decide ((k : Int) < n))) (x := .int .i32 (k : Nat)) (y := .int .i32 (n : Nat)) (by rw [aget_put_other _ _ _ _ (by omega)]; exact aget_put_same _ _ _ (by omega)) (aget_put_same _ _ _ (by simp only [size_put]; omega)) (eqGuard_at_int ..) (by simp [binOp, Op.intCmp]) ?_
  refine wpList_nil ?_
  generalize ha3 : Act.put (Act.put (Act.put a2 (some t2) (.int .i32 (k : Nat))) (some (t2 + 1)) (.int .i32 (n : Nat))) (some (t2 + 2)) (.bool (decide ((k : Int) < n))) = a3
  have hx3 : aget a3 (t2 + 2) = .bool (decide ((k : Int) < n)) := by rw [← ha3]; exact aget_put_same _ _ _ (by simp only [size_put]; omega)
  have hf3 : Fr N lo t nt a2 a3 := by rw [← ha3]; exact (((Fr.refl N lo t nt a2).put _ _ (by omega)).put _ _ (by omega)).put _ _ (by omega)
  have hi3 : aget a3 i = .int .i32 (k : Nat) := by rw [← ha3, aget_put_other _ _ _ _ (by omega), aget_put_other _ _ _ _ (by omega), aget_put_other _ _ _ _ (by omega)]; exact I.si
  have hl3 : aget a3 l = .int .i32 (n : Nat) := by rw [← ha3, aget_put_other _ _ _ _ (by omega), aget_put_other _ _ _ _ (by omega), aget_put_other _ _ _ _ (by omega)]; exact I.sl
  have hu3 : aget a3 u = .slice (some ⟨p, 0, none⟩) n cap := by rw [← ha3, aget_put_other _ _ _ _ (by omega), aget_put_other _ _ _ _ (by omega), aget_put_other _ _ _ _ (by omega)]; exact I.su
  clear ha3
  have hN3 : a3.tmps.size = nt := hf3.size.trans hN2
  by_cases hlt : k < n
  · have hdec : decide ((k : Int) < n) = true := by simp; omega
    rw [hdec] at hx3
    refine wp_cond_true hx3 (wp_skip ?_)
    refine wp_seq (wp_block ?_)
    refine h O rb p T n cap k a3 w2 cs2 _ _ hN3 (((hh2.frR hk' hD hf3).cons hu3).cons hi3) hlt I.rst (I.fresh k (Nat.le_refl _) hlt) ?_ ?_
    · intro a4 w4 cs4 hst4 hf4 hk4 hs4 hv4
      have hN4 : a4.tmps.size = nt := hf4.size.trans hN3
      have hi4 : aget a4 i = .int .i32 (k : Nat) := (hf4.same _ (by omega) (.inl (by omega))).trans hi3
      have hl4 : aget a4 l = .int .i32 (n : Nat) := (hf4.same _ (by omega) (.inl (by omega))).trans hl3
      have hu4 : aget a4 u = .slice (some ⟨p, 0, none⟩) n cap := (hf4.same _ (by omega) (.inl (by omega))).trans hu3
      refine wp_reg ?_
      refine wl_move hi4 ?_
      refine wl_bin (x := .int .i32 (k : Nat)) (r := .int .i32 ((k + 1 : Nat) : Int)) (aget_put_same _ _ _ (by omega)) (eqGuard_at_int ..) ?_ ?_
      · simp only [binOp, Op.intArith]
        have : IntKind.i32.wrap ((k : Int) + 1) = (k : Int) + 1 := by
          rw [IntKind.wrap_i32]
          omega
        simp [this]
      refine wl_assign (aget_put_same _ _ _ (by simp only [size_put]; omega)) ?_
      refine wpList_nil ?_
      have hf5 : Fr N lo t nt a4 (((a4.put (some t4) (.int .i32 (k : Nat))).put (some (t4 + 1)) (.int .i32 ((k + 1 : Nat) : Int))).put (some i) (.int .i32 ((k + 1 : Nat) : Int))) := (((Fr.refl N lo t nt a4).put _ _ (by omega)).put _ _ (by omega)).put _ _ (by omega)
      have hi5 : aget (((a4.put (some t4) (.int .i32 (k : Nat))).put (some (t4 + 1)) (.int .i32 ((k + 1 : Nat) : Int))).put (some i) (.int .i32 ((k + 1 : Nat) : Int))) i = .int .i32 ((k + 1 : Nat) : Int) := aget_put_same _ _ _ (by simp only [size_put]; omega)
      refine ⟨⟨k + 1, cs4, ⟨by omega, I.fr.trans (hf3.trans ((hf4.mono (by omega) (by omega)).trans hf5)), hi5, ?_, ?_, ?_, ?_, I.keeps.trans hk4, ?_⟩⟩, ?_⟩
      · rw [aget_put_other _ _ _ _ (by omega), aget_put_other _ _ _ _ (by omega), aget_put_other _ _ _ _ (by omega)]; exact hl4
      · rw [aget_put_other _ _ _ _ (by omega), aget_put_other _ _ _ _ (by omega), aget_put_other _ _ _ _ (by omega)]; exact hu4
      · rw [st_snoc]
        cases hx : st.bind (rdMany (rd ver flex e) k) with
        | none => rw [hx] at hst4; exact hst4
        | some q =>
          rw [hx] at hst4
          change RSt gE E O w4 rb p cs4 T ((rd ver flex e q.2).map (·.2)) at hst4
          change RSt gE E O w4 rb p cs4 T (((rd ver flex e q.2).bind fun r => some (q.1 ++ [r.1], r.2)).map (·.2))
          cases hy : rd ver flex e q.2 with
          | none => rw [hy] at hst4; exact hst4
          | some r => rw [hy] at hst4; exact hst4
      · intro j hj1 hj2
        have hmul : k * esz + esz ≤ j * esz := by
          have := Nat.mul_le_mul_right esz (show k + 1 ≤ j by omega)
          rw [Nat.add_mul, Nat.one_mul] at this
          exact this
        exact (I.fresh j (by omega) hj2).same hs4 (.inr hmul)
      · intro vs r hv
        rw [st_snoc] at hv
        cases hx : st.bind (rdMany (rd ver flex e) k) with
        | none => rw [hx] at hv; cases hv
        | some q =>
          rw [hx] at hv
          change ((rd ver flex e q.2).bind fun r => some (q.1 ++ [r.1], r.2)) = _ at hv
          cases hy : rd ver flex e q.2 with
          | none => rw [hy] at hv; cases hv
          | some r2 =>
            rw [hy] at hv
            simp only [Option.bind_some, Option.some.injEq, Prod.mk.injEq] at hv
            obtain ⟨rfl, rfl⟩ := hv
            obtain ⟨hlen, hrep⟩ := I.done q.1 q.2 hx
            refine ⟨by simp [hlen], fun j v hj => ?_⟩
            by_cases hjk : j < k
            · rw [List.getElem?_append_left (by omega)] at hj
              refine (hrep j v hj).move hRT (I.rst.keepO hk4) fun m hm => ?_
              have hmul : j * esz + esz ≤ k * esz := by
                have := Nat.mul_le_mul_right esz (show j + 1 ≤ k by omega)
                rw [Nat.add_mul, Nat.one_mul] at this
                exact this
              exact I.rst.blk.same hst4.blk hs4 _ (.inl (by omega))
            · have hjk2 : j = k := by
                have := (List.getElem?_eq_some_iff.1 hj).1
                simp [hlen] at this
                omega
              subst hjk2
              rw [List.getElem?_append_right (by omega), hlen, Nat.sub_self] at hj
              simp at hj
              subst hj
              exact hv4 r2.1 r2.2 (by rw [hx]; exact hy)
      · rw [hi5, I.si]
        simp [intOf]
        omega
    · intro a4 w4 hn4 hs4 hd4 hE4 hk4
      refine hr a4 w4 ?_ hs4 (hd4.trans (hf3.defers.trans (I.fr.defers.trans hf1.defers))) hE4 (I.keeps.trans hk4)
      refine st_none (k := k + 1) ?_ (by omega)
      rw [st_snoc]
      cases hx : st.bind (rdMany (rd ver flex e) k) with
      | none => rfl
      | some q =>
        rw [hx] at hn4
        change rd ver flex e q.2 = none at hn4
        change ((rd ver flex e q.2).bind fun r => some (q.1 ++ [r.1], r.2)) = none
        rw [hn4]
        rfl
  · have hdec : decide ((k : Int) < n) = false := by simp; omega
    rw [hdec] at hx3
    have hkn : k = n := by have := I.le; omega
    subst hkn
    refine wp_cond_false hx3 (wp_exit ?_)
    simp only [Exit.then, Exit.inBlock, if_true]
    exact hq a3 w2 cs2 I.rst (hf1.trans (I.fr.trans hf3)) hu3 I.keeps I.done
/-- The loop over nothing. -/
theorem rd_for0 {i l t2 t4 B B' r1 r2 r4 T2 U2 T3 U3 ty1 ty2 ty3 ty4 ty5 ty6 ty7 : Nat} {p1 p2 p3 p4 p5 p6 p7 : String} {e1 e2 e3 e4 e5 e6 e7 : Array Edge} {c : Code}
    (hD : Dims N nt lo t) (hd : t ≤ t2 ∧ t2 + 2 < nt ∧ lo ≤ l ∧ l < N ∧ lo ≤ i ∧ i < N ∧ l ≠ i) (a : Act) (w : World) (n : Int) (Q : Exit → Act → World → Prop)
    (hN : a.tmps.size = nt) (hn : n ≤ 0) (hl : aget a l = .int .i32 n) (hq : ∀ a', Fr N lo t nt a a' → (∀ s, s ≠ i → s < N → aget a' s = aget a s) → Q .normal a' w) :
    ((Code.region r1 #[⟨some i, .assign (.const (.int .i32 0)), ty1, p1, e1, none⟩] false).seq (.block B (.loop
      (((Code.region r2 #[⟨some t2, .move (.tmp i), ty2, p2, e2, none⟩, ⟨some (t2 + 1), .move (.tmp l), ty3, p3, e3, none⟩, ⟨some (t2 + 2), .binOp .lss T2 (.tmp t2) (.tmp (t2 + 1)) U2, ty4, p4, e4, none⟩] false).seq (.cond (.tmp (t2 + 2)) .skip (.exit B))).seq
        ((Code.block B' c).seq (.region r4 #[⟨some t4, .move (.tmp i), ty5, p5, e5, none⟩, ⟨some (t4 + 1), .binOp .add T3 (.tmp t4) (.const (.int .i32 1)) U3, ty6, p6, e6, none⟩, ⟨some i, .assign (.tmp (t4 + 1)), ty7, p7, e7, none⟩] false)))))).wp P Q a w := by
  obtain ⟨d1, d2, d3, d4, d5, d6, d7⟩ := hd
  have g1 := hD.dOne; have g2 := hD.dLo; have g3 := hD.dT; have g4 := hD.dN
  refine wp_seq (wp_reg (wl_assign_c (wpList_nil ?_)))
  refine wp_block ?_
  refine wp_loop (fun a' w' => a' = a.put (some i) (.int .i32 0) ∧ w' = w) (fun _ _ => 0) ⟨rfl, rfl⟩ ?_
  rintro a2 w2 ⟨rfl, rfl⟩
  refine wp_seq (wp_seq (wp_reg ?_))
  refine wl_move (v := .int .i32 0) (aget_put_same _ _ _ (by omega)) ?_
  refine wl_move (v := .int .i32 n) (by rw [aget_put_other _ _ _ _ (by omega), aget_put_other _ _ _ _ (by omega)]; exact hl) ?_
  refine wl_bin2 (r := .bool (decide ((0 : Int) < n))) (x := .int .i32 0) (y := .int .i32 n) (by rw [aget_put_other _ _ _ _ (by omega)]; exact aget_put_same _ _ _ (by simp only [size_put]; omega)) (aget_put_same _ _ _ (by simp only [size_put]; omega)) (eqGuard_at_int ..) (by simp [binOp, Op.intCmp]) ?_
  refine wpList_nil ?_
  have hdec : decide ((0 : Int) < n) = false := by simp; omega
  rw [hdec]
  refine wp_cond_false (aget_put_same _ _ _ (by simp only [size_put]; omega)) (wp_exit ?_)
  simp only [Exit.then, Exit.inBlock, if_true]
  refine hq _ (((((Fr.refl N lo t nt a).put _ _ (by omega)).put _ _ (by omega)).put _ _ (by omega)).put _ _ (by omega)) fun s hs hs2 => ?_
  rw [aget_put_other _ _ _ s (by omega), aget_put_other _ _ _ s (by omega), aget_put_other _ _ _ s (by omega), aget_put_other _ _ _ s (by omega)]
end
end Go.Proofs.YtmpilpgabelmiaaGreatDoor

/- The code that reads a list: its count, the room, the loop, the store. -/
namespace Go.Proofs.YtmpilpgabelmiaaGreatDoor
open Go Go.RowKit
set_option linter.unusedVariables false

section
variable {RT : RTags} {P : Program} {N nt gE : Nat} {E : Value} {K : Slots} {lo t : Nat} {ver : Int} {flex : Bool}
/-- What is asked of Ok and Complete. -/
def OkC (P : Program) (F : Nat) : Prop := ∀ (O : List Nat) (rb : Nat) (w : World) (st : Option (List UInt8)), Rdr O w rb st → Calls P F #[.pointer (some ⟨rb, 0, none⟩)] w fun e w' => e = .returned (.bool st.isSome) ∧ w = w'
def CompleteC (P : Program) (F gE : Nat) (E : Value) : Prop := ∀ (O : List Nat) (rb : Nat) (w : World) (st : Option (List UInt8)), Rdr O w rb st → w.cell? ⟨gE, 0, none⟩ = some E → Calls P F #[.pointer (some ⟨rb, 0, none⟩)] w fun e w' => e = .returned (if st.isSome then .nilIface else E) ∧ w = w'
theorem wl_not {w : World} {ops : Array Oper} {rest : List Oper} {a : Act} {Q : Exit → Act → World → Prop} {d s T : Nat} {ty : TypeId} {pos : String} {af : Array Edge} {x : Bool} (hs : aget a s = .bool x) (h : wpList P ops Q rest (a.put (some d) (.bool (!x))) w) :
    wpList P ops Q (⟨some d, .unOp .not T (.tmp s), ty, pos, af, none⟩ :: rest) a w :=
  wl_value (v := .bool (!x)) (w' := w) rfl (by simp [execOp, aget_eval, hs, Op.unary]) h
/-- 'return b.Complete()'. -/
theorem reg_complete {bp rs t1 F r ty1 ty2 : Nat} {p1 p2 : String} {e1 e2 : Array Edge} {at_ : Array TypeId} {O : List Nat} {w : World} {rb : Nat} {st : Option (List UInt8)} {a : Act} {Q : Exit → Act → World → Prop} (he : Enters P F) (hC : CompleteC P F gE E)
    (hN : a.tmps.size = nt) (hbp : aget a bp = .pointer (some ⟨rb, 0, none⟩)) (hr : Rdr O w rb st) (hE : w.cell? ⟨gE, 0, none⟩ = some E) (hd : t1 < nt ∧ rs < nt)
    (h : ∀ a', a'.tmps.size = nt → a'.defers = a.defers → aget a' rs = (if st.isSome then .nilIface else E) → Q .ret a' w) :
    ((Code.region r #[⟨some t1, .call { callee := .value (.func F), args := #[.tmp bp], argTypes := at_ }, ty1, p1, e1, none⟩, ⟨some rs, .assign (.tmp t1), ty2, p2, e2, none⟩] false).seq .ret).wp P Q a w := by
  refine wp_seq (wp_reg ?_)
  refine wl_call (R := fun e w' => e = .returned (if st.isSome then .nilIface else E) ∧ w = w') he ?_ ?_
  · simp only [List.map_toArray, List.map_cons, List.map_nil, aget_eval]
    rw [hbp]
    exact hC O rb w st hr hE
  rintro e w' ⟨rfl, rfl⟩
  refine ⟨_, rfl, ?_⟩
  refine wl_assign (aget_put_same _ _ _ (by rw [hN]; omega)) ?_
  refine wpList_nil (wp_ret (h _ (by simp only [size_put, hN]) (by simp only [defers_put]) (aget_put_same _ _ _ (by simp only [size_put]; omega))))
/-- 'if !b.Ok() { return b.Complete() }'. -/
theorem reg_ok {bp rs t1 t2 F F2 U r r2 ty1 ty2 ty3 ty4 : Nat} {p1 p2 p3 p4 : String} {e1 e2 e3 e4 : Array Edge} {at_ at2 : Array TypeId} {O : List Nat} {w : World} {rb : Nat} {st : Option (List UInt8)} {a : Act} {Q : Exit → Act → World → Prop} (he : Enters P F) (hO : OkC P F) (he2 : Enters P F2) (hC : CompleteC P F2 gE E)
    (hN : a.tmps.size = nt) (hbp : aget a bp = .pointer (some ⟨rb, 0, none⟩)) (hr : Rdr O w rb st) (hE : w.cell? ⟨gE, 0, none⟩ = some E) (hD : Dims N nt lo t) (hd : t ≤ t1 ∧ t1 + 1 < nt ∧ t2 < nt ∧ rs < nt ∧ bp ≠ t1 ∧ bp ≠ t1 + 1)
    (hq : ∀ a', st.isSome = true → Fr N lo t nt a a' → (∀ s, s < N → aget a' s = aget a s) → Q .normal a' w) (hret : ∀ a', st = none → a'.tmps.size = nt → a'.defers = a.defers → aget a' rs = E → Q .ret a' w) :
    ((Code.region r #[⟨some t1, .call { callee := .value (.func F), args := #[.tmp bp], argTypes := at_ }, ty1, p1, e1, none⟩, ⟨some (t1 + 1), .unOp .not U (.tmp t1), ty2, p2, e2, none⟩] false).seq
      (.cond (.tmp (t1 + 1)) ((Code.region r2 #[⟨some t2, .call { callee := .value (.func F2), args := #[.tmp bp], argTypes := at2 }, ty3, p3, e3, none⟩, ⟨some rs, .assign (.tmp t2), ty4, p4, e4, none⟩] false).seq .ret) .skip)).wp P Q a w := by
  have g2 := hD.dLo; have g3 := hD.dT; have g4 := hD.dN
  refine wp_seq (wp_reg ?_)
  refine wl_call (R := fun e w' => e = .returned (.bool st.isSome) ∧ w = w') he ?_ ?_
  · simp only [List.map_toArray, List.map_cons, List.map_nil, aget_eval]
    rw [hbp]
    exact hO O rb w st hr
  rintro e w' ⟨rfl, rfl⟩
  refine ⟨_, rfl, ?_⟩
  refine wl_not (x := st.isSome) (aget_put_same _ _ _ (by rw [hN]; omega)) ?_
  refine wpList_nil ?_
  have hf : Fr N lo t nt a ((a.put (some t1) (.bool st.isSome)).put (some (t1 + 1)) (.bool (!st.isSome))) := ((Fr.refl N lo t nt a).put _ _ (by omega)).put _ _ (by omega)
  have hx : aget ((a.put (some t1) (.bool st.isSome)).put (some (t1 + 1)) (.bool (!st.isSome))) (t1 + 1) = .bool (!st.isSome) := aget_put_same _ _ _ (by simp only [size_put]; omega)
  have hs : ∀ s, s < N → aget ((a.put (some t1) (.bool st.isSome)).put (some (t1 + 1)) (.bool (!st.isSome))) s = aget a s := fun s h => by rw [aget_put_other _ _ _ s (by omega), aget_put_other _ _ _ s (by omega)]
  have hb2 : aget ((a.put (some t1) (.bool st.isSome)).put (some (t1 + 1)) (.bool (!st.isSome))) bp = .pointer (some ⟨rb, 0, none⟩) := by rw [aget_put_other _ _ _ _ (by omega), aget_put_other _ _ _ _ (by omega)]; exact hbp
  generalize ((a.put (some t1) (.bool st.isSome)).put (some (t1 + 1)) (.bool (!st.isSome))) = a2 at *
  cases st with
  | none =>
    refine wp_cond_true hx ?_
    exact reg_complete he2 hC (hf.size.trans hN) hb2 hr hE ⟨by omega, by omega⟩ fun a' h1 h2 h3 => hret a' rfl h1 (h2.trans hf.defers) h3
  | some bs => exact wp_cond_false hx (wp_skip (hq a2 rfl hf hs))
/-- The code c reads a count into slot l. -/
def RdLn (P : Program) (N nt gE : Nat) (E : Value) (flex : Bool) (K : Slots) (lo t bp : Nat) (c : Code) (l : Nat) : Prop :=
  ∀ (O : List Nat) (rb b T : Nat) (a : Act) (w : World) (cs : List Value) (st : Option (List UInt8)) (Q : Exit → Act → World → Prop), a.tmps.size = nt → Holds ((bp, .pointer (some ⟨rb, 0, none⟩)) :: K) a → RSt gE E O w rb b cs T st →
    (∀ a' w' n, aget a' l = .int .i32 n → RSt gE E O w' rb b cs T ((st.bind (rdLen flex)).map (·.2)) → Fr N lo t nt a a' → (∀ s, s ≠ l → s < N → aget a' s = aget a s) → Keeps [rb] w w' → (∀ m r, st.bind (rdLen flex) = some (m, r) → m = n) → Q .normal a' w') → c.wp P Q a w
theorem rdLn_call {bp l t1 F r ty1 ty2 : Nat} {p1 p2 : String} {e1 e2 : Array Edge} {at_ : Array TypeId} (he : Enters P F) (hC : RdC P F (rdLen flex) (fun _ _ v n => v = .int .i32 n) (fun v => ∃ n, v = .int .i32 n)) (hD : Dims N nt lo t) (hd : t ≤ t1 ∧ t1 < nt ∧ lo ≤ l ∧ l < N) :
    RdLn P N nt gE E flex K lo t bp (Code.region r #[⟨some t1, .call { callee := .value (.func F), args := #[.tmp bp], argTypes := at_ }, ty1, p1, e1, none⟩, ⟨some l, .assign (.tmp t1), ty2, p2, e2, none⟩] false) l := by
  intro O rb b T a w cs st Q hN hh hst hq
  obtain ⟨d1, d2, d3, d4⟩ := hd
  have g2 := hD.dLo; have g3 := hD.dT; have g4 := hD.dN
  refine wp_reg ?_
  refine wl_call (R := RdPost (rdLen flex) (fun _ _ v n => v = .int .i32 n) (fun v => ∃ n, v = .int .i32 n) O rb w st) he ?_ ?_
  · simp only [List.map_toArray, List.map_cons, List.map_nil, aget_eval]
    rw [hh.head]
    exact hC O rb w st hst.rbO hst.lt hst.rdr
  rintro e w' ⟨v, rfl, hr, hk, hbad, hgood⟩
  refine ⟨v, rfl, ?_⟩
  obtain ⟨n, rfl, hn⟩ : ∃ n, v = .int .i32 n ∧ ∀ m r, st.bind (rdLen flex) = some (m, r) → m = n := by
    cases hx : st.bind (rdLen flex) with
    | none =>
      obtain ⟨n, rfl⟩ := hbad hx
      exact ⟨n, rfl, fun m r h => nomatch h⟩
    | some q =>
      refine ⟨q.1, hgood q.1 q.2 hx, fun m r h => ?_⟩
      cases h
      rfl
  refine wl_assign (aget_put_same _ _ _ (by rw [hN]; omega)) ?_
  refine wpList_nil (hq _ w' n (aget_put_same _ _ _ (by simp only [size_put]; omega)) (hst.call hr hk) (((Fr.refl N lo t nt a).put _ _ (by omega)).put _ _ (by omega)) (fun s h1 h2 => ?_) hk hn)
  rw [aget_put_other _ _ _ s (by omega), aget_put_other _ _ _ s (by omega)]
theorem rdLn_flag {bp l sf t1 r ty1 : Nat} {p1 : String} {e1 : Array Edge} {c1 c2 : Code} (hk : KOK N lo t ((bp, .int .i64 0) :: K)) (hf : (sf, Value.bool flex) ∈ K) (hD : Dims N nt lo t) (hd : t ≤ t1 ∧ t1 < nt)
    (h1 : flex = true → RdLn P N nt gE E flex K lo t bp c1 l) (h2 : flex = false → RdLn P N nt gE E flex K lo t bp c2 l) :
    RdLn P N nt gE E flex K lo t bp ((Code.region r #[⟨some t1, .move (.tmp sf), ty1, p1, e1, none⟩] false).seq (.cond (.tmp t1) c1 c2)) l := by
  intro O rb b T a w cs st Q hN hh hst hq
  have g2 := hD.dLo; have g3 := hD.dT; have g4 := hD.dN
  have hk' : KOK N lo t ((bp, .pointer (some ⟨rb, 0, none⟩)) :: K) := fun p hp => by
    simp only [List.mem_cons] at hp
    rcases hp with rfl | hp
    · exact hk (bp, .int .i64 0) (by simp)
    · exact hk p (by simp [hp])
  refine wp_seq (wp_reg (wl_move (hh _ (List.mem_cons_of_mem _ hf)) (wpList_nil ?_)))
  have hfr : Fr N lo t nt a (a.put (some t1) (.bool flex)) := (Fr.refl N lo t nt a).put _ _ (by omega)
  have hx : aget (a.put (some t1) (.bool flex)) t1 = .bool flex := aget_put_same _ _ _ (by omega)
  have hs : ∀ s, s < N → aget (a.put (some t1) (.bool flex)) s = aget a s := fun s h => aget_put_other _ _ _ _ (by omega)
  generalize a.put (some t1) (.bool flex) = a1 at *
  cases flex
  · exact wp_cond_false hx (h2 rfl O rb b T a1 w cs st Q (hfr.size.trans hN) (hh.frR hk' hD hfr) hst fun a2 w2 n k1 k2 k3 k4 => hq a2 w2 n k1 k2 (hfr.trans k3) fun s q1 q2 => (k4 s q1 q2).trans (hs s q2))
  · exact wp_cond_true hx (h1 rfl O rb b T a1 w cs st Q (hfr.size.trans hN) (hh.frR hk' hD hfr) hst fun a2 w2 n k1 k2 k3 k4 => hq a2 w2 n k1 k2 (hfr.trans k3) fun s q1 q2 => (k4 s q1 q2).trans (hs s q2))
theorem rd_list (ver : Int) (flex : Bool) (nul : Option Int) (z : Nat) (e : Sch) (st : Option (List UInt8)) : st.bind (rd ver flex (.list nul z e)) = (st.bind (rdLen flex)).bind fun q => (if q.1 < 0 ∧ nullAt nul ver = true then some (.null, q.2) else (rdMany (rd ver flex e) q.1.toNat q.2).bind fun r => some (.list r.1, r.2)) := by
  have h : rd ver flex (.list nul z e) = (rdLen flex).bind fun n => if n < 0 ∧ nullAt nul ver = true then .pure .null else (rdMany (rd ver flex e) n.toNat).bind fun l => .pure (.list l) := rfl
  rw [h, bind_st]
  congr 1
  funext q
  split
  · rfl
  · cases hx : rdMany (rd ver flex e) q.1.toNat q.2 with
    | none => rw [bind_none hx]; rfl
    | some r => rw [bind_eq (v := r.1) (r := r.2) hx]; rfl
end
end Go.Proofs.YtmpilpgabelmiaaGreatDoor

/- The code that reads a list, whole. -/
namespace Go.Proofs.YtmpilpgabelmiaaGreatDoor
open Go Go.RowKit
set_option linter.unusedVariables false

section
variable {RT : RTags} {P : Program} {N nt gE : Nat} {E : Value} {K : Slots} {lo t : Nat} {ver : Int} {flex : Bool}
/-- 'a = a[:0]' of a slice without things or room. -/
theorem wl_slice0 {w : World} {ops : Array Oper} {rest : List Oper} {a : Act} {Q : Exit → Act → World → Prop} {d s T e : Nat} {ty : TypeId} {pos : String} {af : Array Edge} {ad : Option Addr} (hT : P.underlying T = some (.slice e)) (hE : ∃ i, P.info? e = some i) (hs : aget a s = .slice ad 0 0)
    (h : wpList P ops Q rest (a.put (some d) (.slice ad 0 0)) w) : wpList P ops Q (⟨some d, .slice T (.tmp s) none (some (.const (.int .i64 0))) none, ty, pos, af, none⟩ :: rest) a w := by
  obtain ⟨i, hi⟩ := hE
  refine wl_value (v := .slice ad 0 0) (w' := w) rfl ?_ h
  have e0 : a.eval (.const (.int .i64 0)) = .int .i64 0 := rfl
  cases ad <;> simp [execOp, aget_eval, hs, e0, Instr.sliceAt, Instr.slice, Instr.sliceBounds, run_sliceBound, run_underlying hT, sizeOf, typeInfo, hi]
/-- What is known of the type of a list's things. -/
structure ElT (P : Program) (T e esz : Nat) (sch : Sch) : Prop where
  under : P.underlying T = some (.slice e)
  info : ∃ (i : TypeInfo) (z : Value), P.info? e = some i ∧ i.zero = some z ∧ i.size = esz ∧ z.cells.size = esz ∧ i.bytes ≤ 100000 ∧ Fresh z.cells.toList 0 sch
/-- 'if l > 0 { a = append(a, make([]T, l)...) }'. -/
theorem reg_make {u l t1 t2 T I e esz U1 U2 r r2 ty1 ty2 ty3 ty4 ty5 ty6 : Nat} {p1 p2 p3 p4 p5 p6 : String} {e1 e2 e3 e4 e5 e6 : Array Edge} {sch : Sch} {a : Act} {w : World} {ad : Option Addr} {n : Int} {Q : Exit → Act → World → Prop}
    (hT : ElT P T e esz sch) (hI : P.underlying I = some (.int .i32)) (hesz : 0 < esz) (htop : top sch ≤ esz) (hD : Dims N nt lo t) (hd : t ≤ t1 ∧ t1 + 1 < nt ∧ t ≤ t2 ∧ t2 + 2 < nt ∧ lo ≤ u ∧ u < N ∧ l < N)
    (hN : a.tmps.size = nt) (hu : aget a u = .slice ad 0 0) (hl : aget a l = .int .i32 n) (hn : n ≤ 2147483647)
    (hq0 : ∀ a', n ≤ 0 → Fr N lo t nt a a' → (∀ s, s ≠ u → s < N → aget a' s = aget a s) → aget a' u = .slice ad 0 0 → Q .normal a' w)
    (hq1 : ∀ a' cs cap, 0 < n → Fr N lo t nt a a' → (∀ s, s ≠ u → s < N → aget a' s = aget a s) → aget a' u = .slice (some ⟨w.heap.size, 0, none⟩) n.toNat cap → n.toNat ≤ cap → cap ≤ 9223372036854775807 → (∀ j, j < n.toNat → Fresh cs (j * esz) sch) → Q .normal a' (w.drew.alloc (.cells cs.toArray e))) :
    ((Code.region r #[⟨some t1, .move (.tmp l), ty1, p1, e1, none⟩, ⟨some (t1 + 1), .binOp .gtr U1 (.tmp t1) (.const (.int .i32 0)) U2, ty2, p2, e2, none⟩] false).seq
      (.cond (.tmp (t1 + 1)) (Code.region r2 #[⟨some t2, .move (.tmp u), ty3, p3, e3, none⟩, ⟨some (t2 + 1), .move (.tmp l), ty4, p4, e4, none⟩,
        ⟨some (t2 + 2), .call { callee := .builtin .append, args := #[.tmp t2, .tmp (t2 + 1)], argTypes := #[T, I] }, ty5, p5, e5, none⟩, ⟨some u, .assign (.tmp (t2 + 2)), ty6, p6, e6, none⟩] false) .skip)).wp P Q a w := by
  obtain ⟨d1, d2, d3, d4, d5, d6, d7⟩ := hd
  have g2 := hD.dLo; have g3 := hD.dT; have g4 := hD.dN
  refine wp_seq (wp_reg ?_)
  refine wl_move hl ?_
  refine wl_bin (r := .bool (decide (0 < n))) (x := .int .i32 n) (aget_put_same _ _ _ (by omega)) (eqGuard_at_int ..) (by simp [binOp, Op.intCmp]) ?_
  refine wpList_nil ?_
  have hf : Fr N lo t nt a ((a.put (some t1) (.int .i32 n)).put (some (t1 + 1)) (.bool (decide (0 < n)))) := ((Fr.refl N lo t nt a).put _ _ (by omega)).put _ _ (by omega)
  have hx : aget ((a.put (some t1) (.int .i32 n)).put (some (t1 + 1)) (.bool (decide (0 < n)))) (t1 + 1) = .bool (decide (0 < n)) := aget_put_same _ _ _ (by simp only [size_put]; omega)
  have hs : ∀ s, s < N → aget ((a.put (some t1) (.int .i32 n)).put (some (t1 + 1)) (.bool (decide (0 < n)))) s = aget a s := fun s h => by rw [aget_put_other _ _ _ s (by omega), aget_put_other _ _ _ s (by omega)]
  generalize ((a.put (some t1) (.int .i32 n)).put (some (t1 + 1)) (.bool (decide (0 < n)))) = a1 at *
  by_cases h0 : 0 < n
  · rw [decide_eq_true h0] at hx
    refine wp_cond_true hx (wp_reg ?_)
    have hN1 := hf.size.trans hN
    obtain ⟨i, z, hi, hz, hsz, hzs, hby, hfr⟩ := hT.info
    obtain ⟨m, rfl⟩ : ∃ m : Nat, n = m := ⟨n.toNat, by omega⟩
    rw [Int.toNat_natCast] at hq1
    have hrun := run_append_zeros (P := P) w T I ty5 e i z .i32 .i32 hT.under hI hi hz ad m (by omega) (by omega) (by omega) (by
      have := Nat.mul_le_mul (show m ≤ 2147483647 by omega) hby
      omega)
    refine wl_move (v := .slice ad 0 0) ((hs u d6).trans hu) ?_
    refine wl_move (v := .int .i32 (m : Nat)) (by rw [aget_put_other _ _ _ _ (by omega)]; exact (hs l d7).trans hl) ?_
    refine Lib.wpList_append_run _ rfl _ _ T I rfl (.slice ad 0 0) (.int .i32 (m : Nat)) ?_ ?_ _ _ hrun ?_
    · rw [aget_eval, aget_put_other _ _ _ _ (by omega)]; exact aget_put_same _ _ _ (by omega)
    · exact aget_put_same _ _ _ (by simp only [size_put]; omega)
    have hge := grownCap_ge w m 0 e
    have hcm : grownCap w m 0 e ≤ maxLen := grownCap_le_maxLen w m 0 e (by unfold maxLen; omega)
    unfold maxLen at hcm
    refine wl_assign (aget_put_same _ _ _ (by simp only [size_put]; omega)) ?_
    refine wpList_nil ?_
    have e0 : Builtin.zeroCells z.cells m ++ Builtin.zeroCells z.cells (grownCap w m 0 e - m) = (Builtin.zeroCells z.cells m ++ Builtin.zeroCells z.cells (grownCap w m 0 e - m)).toList.toArray := by simp
    rw [e0]
    refine hq1 _ _ (grownCap w m 0 e) h0 (hf.trans (((((Fr.refl N lo t nt a1).put _ _ (by omega)).put _ _ (by omega)).put _ _ (by omega)).put _ _ (by omega))) (fun s h1 h2 => ?_) (aget_put_same _ _ _ (by simp only [size_put]; omega)) hge (by simpa using hcm) (fun j hj => ?_)
    · rw [aget_put_other _ _ _ s (by omega), aget_put_other _ _ _ s (by omega), aget_put_other _ _ _ s (by omega), aget_put_other _ _ _ s (by omega)]
      exact hs s h2
    · rw [← hzs]
      exact made_fresh hfr (by omega) hj
  · rw [decide_eq_false h0] at hx
    exact wp_cond_false hx (wp_skip (hq0 a1 (by omega) hf (fun s _ h => hs s h) ((hs u d6).trans hu)))

/-- Back from the block of the things to the part. -/
theorem RSt.back {O : List Nat} {w w1 w2 : World} {rb b p T Tp : Nat} {cs csp : List Value} {st st' : Option (List UInt8)} (h : RSt gE E O w rb b cs T st) (hp : w.heap.size ≤ p) (h1 : Keeps [rb] w w1) (hk : Keeps [rb, p] w1 w2) (h2 : RSt gE E (p :: O) w2 rb p csp Tp st') : RSt gE E O w2 rb b cs T st' ∧ Keeps [rb, b] w w2 := by
  have hb : b < w.heap.size := h.lt b h.bO
  have hbp : b ≠ p := by omega
  have hkk : Keeps [rb] w w2 := (h1.mono (O' := [p, rb]) (by simp)).trans (hk.mono (by simp)) |>.close hp
  exact ⟨⟨h2.rdr.mono (fun k hk => List.mem_cons_of_mem _ hk), h.blk.keeps hkk (by simpa using h.ne), h.rbO, h.bO, h.ne, hlt_on h.lt hkk, h2.glob, h.gO⟩, keeps_rb hkk⟩

/-- The room, the loop, the store: behind the count. -/
theorem rd_tail {s bp rs u l i v t1 t2 t3 t4 t5 t6 t7 t8 t9 F F2 T T2 I e T' k U off esz lo' t' B B' r1 r2 r3 r4 r5 r6 r7 r8 r9 r10 UN U1 U2 U3 U4 U5 U6 : Nat}
    {y1 y2 y3 y4 y5 y6 y7 y8 y9 y10 y11 y12 y13 y14 y15 y16 y17 y18 y19 y20 y21 y22 y23 y24 y25 y26 y27 : Nat} {q1 q2 q3 q4 q5 q6 q7 q8 q9 q10 q11 q12 q13 q14 q15 q16 q17 q18 q19 q20 q21 q22 q23 q24 q25 q26 q27 : String} {g1 g2 g3 g4 g5 g6 g7 g8 g9 g10 g11 g12 g13 g14 g15 g16 g17 g18 g19 g20 g21 g22 g23 g24 g25 g26 g27 : Array Edge}
    {at_ at2 : Array TypeId} {c : Code} {nul : Option Int} {sch : Sch}
    (hRT : RTKeep RT) (hRM : RTMono RT) (hk : KOK N lo t ((s, .int .i64 0) :: (bp, .int .i64 0) :: K)) (hD : Dims N nt lo t) (hD' : Dims N nt lo' t')
    (heO : Enters P F) (hO : OkC P F) (heC : Enters P F2) (hC : CompleteC P F2 gE E) (hT : ElT P T e esz sch) (hT2 : ElT P T2 e esz sch) (hI : P.underlying I = some (.int .i32)) (hFA : FieldAt P T' k off) (hU : OneCell P U) (hesz : 0 < esz) (htop : top sch ≤ esz)
    (hd1 : t ≤ t1 ∧ t1 + 1 < nt ∧ t2 < nt ∧ rs < nt ∧ bp < lo ∧ t ≤ t3 ∧ t3 + 1 < nt ∧ t ≤ t4 ∧ t4 + 1 < nt ∧ t ≤ t5 ∧ t5 + 2 < nt ∧ t ≤ t6 ∧ t6 + 2 < nt ∧ t ≤ t7 ∧ t7 + 1 < nt ∧ t ≤ t8 ∧ t8 < nt ∧ t ≤ t9 ∧ t9 + 3 < nt)
    (hd2 : lo ≤ u ∧ u < N ∧ lo ≤ l ∧ l < N ∧ lo ≤ i ∧ i < N ∧ lo ≤ v ∧ v < N ∧ u < lo' ∧ l < lo' ∧ i < lo' ∧ lo ≤ lo' ∧ t ≤ t' ∧ u ≠ i ∧ l ≠ i ∧ u ≠ l) (hB : B ≠ B')
    (hEl : RdEl RT P N nt gE E ver flex K lo' t' u i bp rs c esz sch)
    (O : List Nat) (rb b o Tb : Nat) (a : Act) (w : World) (cs : List Value) (st : Option (List UInt8)) (Q : Exit → Act → World → Prop) (ad : Option Addr) (n : Int)
    (hN : a.tmps.size = nt) (hh : Holds ((s, .pointer (some ⟨b, o, none⟩)) :: (bp, .pointer (some ⟨rb, 0, none⟩)) :: K) a) (hst : RSt gE E O w rb b cs Tb ((st.bind (rdLen flex)).map (·.2))) (hlt : o + off < cs.length)
    (hu : aget a u = .slice ad 0 0) (hl : aget a l = .int .i32 n) (hn : ∀ m r, st.bind (rdLen flex) = some (m, r) → m = n) (hnul : nul.isSome = true → n ≤ 0 → (ad.isSome = true ↔ ¬ (n < 0 ∧ nullAt nul ver = true))) (had : nul.isSome = false → ad = none ∨ True)
    (hq : ∀ a' w' cs', RSt gE E O w' rb b cs' Tb ((st.bind (rd ver flex (.list nul esz sch))).map (·.2)) → Fr N lo t nt a a' → Keeps [rb, b] w w' → SameOut cs cs' (o + off) (o + (off + 1)) → (∀ v r, st.bind (rd ver flex (.list nul esz sch)) = some (v, r) → Rep RT O w' ver flex (.list nul esz sch) b (o + off) v) → Q .normal a' w')
    (hr : ∀ a' w', st.bind (rd ver flex (.list nul esz sch)) = none → a'.tmps.size = nt → a'.defers = a.defers → aget a' rs = E → Keeps [rb, b] w w' → Q .ret a' w') :
    (((Code.region r1 #[⟨some t1, .call { callee := .value (.func F), args := #[.tmp bp], argTypes := at_ }, y1, q1, g1, none⟩, ⟨some (t1 + 1), .unOp .not UN (.tmp t1), y2, q2, g2, none⟩] false).seq
      (.cond (.tmp (t1 + 1)) ((Code.region r2 #[⟨some t2, .call { callee := .value (.func F2), args := #[.tmp bp], argTypes := at2 }, y3, q3, g3, none⟩, ⟨some rs, .assign (.tmp t2), y4, q4, g4, none⟩] false).seq .ret) .skip)).seq
    ((Code.region r3 #[⟨some t3, .move (.tmp u), y5, q5, g5, none⟩, ⟨some (t3 + 1), .slice T2 (.tmp t3) none (some (.const (.int .i64 0))) none, y6, q6, g6, none⟩, ⟨some u, .assign (.tmp (t3 + 1)), y7, q7, g7, none⟩] false).seq
    (((Code.region r4 #[⟨some t4, .move (.tmp l), y8, q8, g8, none⟩, ⟨some (t4 + 1), .binOp .gtr U1 (.tmp t4) (.const (.int .i32 0)) U2, y9, q9, g9, none⟩] false).seq
      (.cond (.tmp (t4 + 1)) (Code.region r5 #[⟨some t5, .move (.tmp u), y10, q10, g10, none⟩, ⟨some (t5 + 1), .move (.tmp l), y11, q11, g11, none⟩,
        ⟨some (t5 + 2), .call { callee := .builtin .append, args := #[.tmp t5, .tmp (t5 + 1)], argTypes := #[T, I] }, y12, q12, g12, none⟩, ⟨some u, .assign (.tmp (t5 + 2)), y13, q13, g13, none⟩] false) .skip)).seq
    (((Code.region r6 #[⟨some i, .assign (.const (.int .i32 0)), y14, q14, g14, none⟩] false).seq (.block B (.loop
      (((Code.region r7 #[⟨some t6, .move (.tmp i), y15, q15, g15, none⟩, ⟨some (t6 + 1), .move (.tmp l), y16, q16, g16, none⟩, ⟨some (t6 + 2), .binOp .lss U3 (.tmp t6) (.tmp (t6 + 1)) U4, y17, q17, g17, none⟩] false).seq (.cond (.tmp (t6 + 2)) .skip (.exit B))).seq
        ((Code.block B' c).seq (.region r8 #[⟨some t7, .move (.tmp i), y18, q18, g18, none⟩, ⟨some (t7 + 1), .binOp .add U5 (.tmp t7) (.const (.int .i32 1)) U6, y19, q19, g19, none⟩, ⟨some i, .assign (.tmp (t7 + 1)), y20, q20, g20, none⟩] false)))))).seq
    ((Code.region r9 #[⟨some t8, .move (.tmp u), y21, q21, g21, none⟩, ⟨some v, .assign (.tmp t8), y22, q22, g22, none⟩] false).seq
      (.region r10 #[⟨some t9, .move (.tmp s), y23, q23, g23, none⟩, ⟨some (t9 + 1), .move (.tmp v), y24, q24, g24, none⟩, ⟨some (t9 + 2), .nilCheck (.tmp t9), y25, q25, g25, none⟩, ⟨some (t9 + 3), .fieldAddr T' (.tmp (t9 + 2)) k, y26, q26, g26, none⟩,
        ⟨none, .store U (.tmp (t9 + 3)) (.tmp (t9 + 1)), y27, q27, g27, none⟩] false)))))).wp P Q a w := by
  obtain ⟨c1, c2, c3, c4, c5, c6, c7, c8, c9, c10, c11, c12, c13, c14, c15, c16, c17, c18, c19⟩ := hd1
  obtain ⟨d1, d2, d3, d4, d5, d6, d7, d8, d9, d10, d11, d12, d13, d14, d15, d16⟩ := hd2
  have x1 := hD.dOne; have x2 := hD.dLo; have x3 := hD.dT; have x4 := hD.dN
  have tot := rd_list ver flex nul esz sch st
  refine wp_seq (reg_ok heO hO heC hC hN hh.tail.head hst.rdr hst.glob hD ⟨c1, c2, c3, c4, by omega, by omega⟩ (fun a1 hs1 hf1 hkeep1 => ?_) (fun a1 hs1 h1 h2 h3 => ?_))
  rotate_left
  · refine hr a1 w ?_ h1 h2 h3 (Keeps.refl _ _)
    rw [tot]
    cases hx : st.bind (rdLen flex) with
    | none => rfl
    | some q => rw [hx] at hs1; cases hs1
  obtain ⟨r, hlen⟩ : ∃ r, st.bind (rdLen flex) = some (n, r) := by
    cases hx : st.bind (rdLen flex) with
    | none => rw [hx] at hs1; cases hs1
    | some q =>
      refine ⟨q.2, ?_⟩
      rw [← hn q.1 q.2 hx]
  rw [hlen] at hst tot
  rw [Option.bind_some] at tot
  dsimp only at tot
  change RSt gE E O w rb b cs Tb (some r) at hst
  have hrM : r.length ≤ lim := by obtain ⟨sv, -, -, h⟩ := hst.rdr; exact h
  have hnr : n ≤ r.length := by
    cases st with
    | none => cases hlen
    | some bs => exact (out_len hlen).1
  have hn32 : n ≤ 2147483647 := by
    cases st with
    | none => cases hlen
    | some bs => exact (out_len hlen).2.2.2
  have hN1 := hf1.size.trans hN
  have hu1 : aget a1 u = .slice ad 0 0 := (hkeep1 u d2).trans hu
  have hl1 : aget a1 l = .int .i32 n := (hkeep1 l d4).trans hl
  clear hkeep1 hs1
  -- the store
  have fin : ∀ (a4 : Act) (w4 : World) (x : Value) (st4 : Option (List UInt8)), Fr N lo t nt a a4 → aget a4 u = x → One x → RSt gE E O w4 rb b cs Tb st4 → (∀ a', Fr N lo t nt a a' → Q .normal a' (w4.setCell ⟨b, o + off, none⟩ x)) →
      ((Code.region r9 #[⟨some t8, .move (.tmp u), y21, q21, g21, none⟩, ⟨some v, .assign (.tmp t8), y22, q22, g22, none⟩] false).seq
      (.region r10 #[⟨some t9, .move (.tmp s), y23, q23, g23, none⟩, ⟨some (t9 + 1), .move (.tmp v), y24, q24, g24, none⟩, ⟨some (t9 + 2), .nilCheck (.tmp t9), y25, q25, g25, none⟩, ⟨some (t9 + 3), .fieldAddr T' (.tmp (t9 + 2)) k, y26, q26, g26, none⟩,
        ⟨none, .store U (.tmp (t9 + 3)) (.tmp (t9 + 1)), y27, q27, g27, none⟩] false)).wp P Q a4 w4 := by
    intro a4 w4 x st4 hf4 hx hone hst4 hqq
    have hN4 := hf4.size.trans hN
    refine wp_seq (wp_reg ?_)
    refine wl_move hx ?_
    refine wl_assign (aget_put_same _ _ _ (by omega)) ?_
    refine wpList_nil ?_
    have hf5 : Fr N lo t nt a ((a4.put (some t8) x).put (some v) x) := hf4.trans (((Fr.refl N lo t nt a4).put _ _ (by omega)).put _ _ (by omega))
    have hh5 := hh.frR (kokR hk) hD hf5
    exact reg_store hFA hU (hf5.size.trans hN) hh5.head (aget_put_same _ _ _ (by simp only [size_put]; omega)) hone hst4.blk hlt hD ⟨c18, c19, by omega⟩ fun a' hf => hqq a' (hf5.trans hf)
  refine wp_seq (wp_reg ?_)
  refine wl_move hu1 ?_
  obtain ⟨ti, tz, hti, -⟩ := hT2.info
  refine wl_slice0 hT2.under ⟨ti, hti⟩ (aget_put_same _ _ _ (by omega)) ?_
  refine wl_assign (aget_put_same _ _ _ (by simp only [size_put]; omega)) ?_
  refine wpList_nil ?_
  have hf2 : Fr N lo t nt a (((a1.put (some t3) (.slice ad 0 0)).put (some (t3 + 1)) (.slice ad 0 0)).put (some u) (.slice ad 0 0)) := hf1.trans ((((Fr.refl N lo t nt a1).put _ _ (by omega)).put _ _ (by omega)).put _ _ (by omega))
  have hu2 : aget (((a1.put (some t3) (.slice ad 0 0)).put (some (t3 + 1)) (.slice ad 0 0)).put (some u) (.slice ad 0 0)) u = .slice ad 0 0 := aget_put_same _ _ _ (by simp only [size_put]; omega)
  have hl2 : aget (((a1.put (some t3) (.slice ad 0 0)).put (some (t3 + 1)) (.slice ad 0 0)).put (some u) (.slice ad 0 0)) l = .int .i32 n := by rw [aget_put_other _ _ _ l (by omega), aget_put_other _ _ _ l (by omega), aget_put_other _ _ _ l (by omega)]; exact hl1
  generalize (((a1.put (some t3) (.slice ad 0 0)).put (some (t3 + 1)) (.slice ad 0 0)).put (some u) (.slice ad 0 0)) = a2 at *
  clear hu1 hl1 hf1 hN1
  simp only [Exit.then]
  refine wp_seq (reg_make hT hI hesz htop hD ⟨c8, c9, c10, c11, d1, d2, d4⟩ (hf2.size.trans hN) hu2 hl2 (by omega) (fun a3 h0 hf3 hs3 hu3 => ?_) (fun a3 csp cap h0 hf3 hs3 hu3 hcap1 hcap2 hfr => ?_))
  · -- nothing to read
    have hl3 : aget a3 l = .int .i32 n := (hs3 l (by omega) d4).trans hl2
    refine wp_seq (rd_for0 hD ⟨c12, c13, d3, d4, d5, d6, d15⟩ a3 w n _ ((hf2.trans hf3).size.trans hN) h0 hl3 fun a4 hf4 hs4 => ?_)
    refine fin a4 w (.slice ad 0 0) (some r) ((hf2.trans hf3).trans hf4) ((hs4 u d14 d2).trans hu3) ⟨rfl, rfl⟩ hst fun a' hf' => ?_
    have hstore := hst.store (o + off) (.slice ad 0 0)
    have hcell : (w.setCell ⟨b, o + off, none⟩ (.slice ad 0 0)).cell? ⟨b, o + off, none⟩ = some (.slice ad 0 0) := (hst.blk.set (o + off) _).cell_some (by rw [List.getElem?_set_self hlt])
    refine hq a' (w.setCell ⟨b, o + off, none⟩ (.slice ad 0 0)) (cs.set (o + off) (.slice ad 0 0)) ?_ hf' (keeps_b w _ _) ((SameOut.set cs (o + off) (.slice ad 0 0)).mono (by omega) (by omega)) fun gv r' hv => ?_
    · rw [tot]
      by_cases hnl : n < 0 ∧ nullAt nul ver = true
      · rw [if_pos hnl]; exact hstore
      · rw [if_neg hnl, show n.toNat = 0 by omega]; exact hstore
    · rw [tot] at hv
      by_cases hnl : n < 0 ∧ nullAt nul ver = true
      · rw [if_pos hnl] at hv
        cases hv
        have hns : nul.isSome = true := by
          cases nul with
          | none => exact absurd hnl.2 (by simp [nullAt])
          | some m => rfl
        have had2 : ad = none := by
          have := hnul hns h0
          cases ad with
          | none => rfl
          | some x => exact absurd hnl (this.1 rfl)
        subst had2
        exact ⟨hns, hcell⟩
      · rw [if_neg hnl, show n.toNat = 0 by omega] at hv
        cases hv
        exact ⟨ad, 0, hcell, by simp, fun hns => (hnul hns h0).2 hnl, fun h => absurd rfl h⟩
  · -- things
    have hl3 : aget a3 l = .int .i32 (n.toNat : Nat) := by rw [Int.toNat_of_nonneg (by omega)]; exact (hs3 l (by omega) d4).trans hl2
    have hf03 := hf2.trans hf3
    have hh3 := hh.frR (kokR hk) hD hf03
    have hk1 : Keeps [rb] w (w.drew.alloc (.cells csp.toArray e)) := ((Keeps.refl [rb] w).drew).alloc _
    have hk0 : Keeps [] w (w.drew.alloc (.cells csp.toArray e)) := ((Keeps.refl [] w).drew).alloc _
    have hrst1 : RSt gE E (w.heap.size :: O) (w.drew.alloc (.cells csp.toArray e)) rb w.heap.size csp e (some r) := by
      refine ⟨?_, Blk.alloc_new w.drew csp e, List.mem_cons_of_mem _ hst.rbO, List.mem_cons_self .., ?_, ?_, ?_, ?_⟩
      · exact (hst.rdr.open (Nat.le_refl _)).other (O' := []) hk0 (by simp) (by simp)
      · have := hst.lt rb hst.rbO; omega
      · intro k hk'
        rcases List.mem_cons.1 hk' with rfl | hk'
        · simp
        · have := hst.lt k hk'
          simp
          omega
      · exact (World.cell?_of_block (hk0.block gE (World.block_lt_of_cell? w _ hst.glob) (by simp))).trans hst.glob
      · intro hx
        rcases List.mem_cons.1 hx with hx | hx
        · have := World.block_lt_of_cell? w _ hst.glob
          simp at this
          omega
        · exact hst.gO hx
    refine wp_seq (rd_for hRT (fun q hq => hk q (by simp only [List.mem_cons] at hq ⊢; rcases hq with rfl | hq; exact .inr (.inl rfl); exact .inr (.inr hq))) hD hD' ⟨c12, c13, c14, c15, d1, d2, d3, d4, d5, d6, d9, d10, d11, d12, d13, d14, d15, d16⟩ hB htop hesz hEl (w.heap.size :: O) rb w.heap.size e n.toNat cap a3 _ csp (some r) _
      (hf03.size.trans hN) hh3.tail (by omega) hrst1 hl3 hu3 hfr (fun a4 w4 cs4 hst4 hf4 hu4 hk4 hv4 => ?_) (fun a4 w4 hn4 hs4 hd4 hE4 hk4 => ?_))
    · obtain ⟨hb4, hkb⟩ := hst.back (Nat.le_refl _) hk1 hk4 hst4
      refine fin a4 w4 (.slice (some ⟨w.heap.size, 0, none⟩) n.toNat cap) _ (hf03.trans hf4) hu4 ⟨rfl, rfl⟩ hb4 fun a' hf' => ?_
      have hstore := hb4.store (o + off) (.slice (some ⟨w.heap.size, 0, none⟩) n.toNat cap)
      have hcell : (w4.setCell ⟨b, o + off, none⟩ (.slice (some ⟨w.heap.size, 0, none⟩) n.toNat cap)).cell? ⟨b, o + off, none⟩ = some (.slice (some ⟨w.heap.size, 0, none⟩) n.toNat cap) := (hb4.blk.set (o + off) _).cell_some (by rw [List.getElem?_set_self hlt])
      have hnl : ¬ (n < 0 ∧ nullAt nul ver = true) := fun h => by omega
      rw [if_neg hnl] at tot
      have tot2 : st.bind (rd ver flex (.list nul esz sch)) = ((some r).bind (rdMany (rd ver flex sch) n.toNat)).bind fun q => some (.list q.1, q.2) := tot
      refine hq a' (w4.setCell ⟨b, o + off, none⟩ (.slice (some ⟨w.heap.size, 0, none⟩) n.toNat cap)) (cs.set (o + off) (.slice (some ⟨w.heap.size, 0, none⟩) n.toNat cap)) ?_ hf' (hkb.trans (keeps_b w4 _ _)) ((SameOut.set cs (o + off) _).mono (by omega) (by omega)) fun gv r' hv => ?_
      · rw [tot2]
        cases hx : (some r).bind (rdMany (rd ver flex sch) n.toNat) with
        | none => rw [hx] at hstore; exact hstore
        | some q => rw [hx] at hstore; exact hstore
      · rw [tot2] at hv
        cases hx : (some r).bind (rdMany (rd ver flex sch) n.toNat) with
        | none => rw [hx] at hv; cases hv
        | some q =>
          rw [hx] at hv
          simp only [Option.bind_some, Option.some.injEq, Prod.mk.injEq] at hv
          obtain ⟨rfl, rfl⟩ := hv
          obtain ⟨hlen2, hrep⟩ := hv4 q.1 q.2 hx
          have hkO : Keeps O w4 (w4.setCell ⟨b, o + off, none⟩ (.slice (some ⟨w.heap.size, 0, none⟩) n.toNat cap)) := (Keeps.refl O w4).setCell hst.bO _
          refine ⟨some ⟨w.heap.size, 0, none⟩, cap, by rw [hlen2]; exact hcell, by omega, fun _ => rfl, fun _ => ⟨w.heap.size, 0, rfl, new_notin hst.lt, ?_, fun j x hj => ?_⟩⟩
          · have := hst4.blk.lt
            simpa [World.setCell] using this
          · rw [Nat.zero_add]
            refine ((hrep j x hj).mono hRM fun k hk => List.mem_cons_of_mem _ hk).move hRT hkO fun m _ => ?_
            exact World.cell?_of_block (hkO.block _ hst4.blk.lt (new_notin hst.lt))
    · have hkb := (hk1.mono (O' := [w.heap.size, rb]) (by simp)).trans (hk4.mono (by simp)) |>.close (Nat.le_refl _)
      refine hr a4 w4 ?_ hs4 (hd4.trans hf03.defers) hE4 (keeps_rb hkb)
      rw [tot, if_neg (fun h => by omega)]
      change ((some r).bind (rdMany (rd ver flex sch) n.toNat)).bind _ = none
      rw [hn4]
      rfl
end
end Go.Proofs.YtmpilpgabelmiaaGreatDoor

/- The code that reads lists, things of lists, tags. -/
namespace Go.Proofs.YtmpilpgabelmiaaGreatDoor
open Go Go.RowKit
set_option linter.unusedVariables false

section
variable {RT : RTags} {P : Program} {N nt gE : Nat} {E : Value} {K : Slots} {lo t : Nat} {ver : Int} {flex : Bool}
theorem RSt.upd {O : List Nat} {w w' : World} {rb b T : Nat} {cs cs' : List Value} {st : Option (List UInt8)} (h : RSt gE E O w rb b cs T st) (hb : Blk w' b cs' T) (hk : Keeps [b] w w') : RSt gE E O w' rb b cs' T st :=
  ⟨h.rdr.other hk (by simpa using fun e => h.ne e.symm) (by simpa using h.bO), hb, h.rbO, h.bO, h.ne, hlt_on h.lt hk, (World.cell?_of_block (hk.block gE (World.block_lt_of_cell? w _ h.glob) (by rintro hx; rw [List.mem_singleton] at hx; exact h.gO (hx ▸ h.bO)))).trans h.glob, h.gO⟩
/-- All behind the count of a list. -/
def RdTail (RT : RTags) (P : Program) (N nt gE : Nat) (E : Value) (ver : Int) (flex : Bool) (K : Slots) (lo t s bp rs u l : Nat) (ct : Code) (off : Nat) (nul : Option Int) (esz : Nat) (sch : Sch) : Prop :=
  ∀ (O : List Nat) (rb b o Tb : Nat) (a : Act) (w : World) (cs : List Value) (st : Option (List UInt8)) (Q : Exit → Act → World → Prop) (ad : Option Addr) (n : Int),
    a.tmps.size = nt → Holds ((s, .pointer (some ⟨b, o, none⟩)) :: (bp, .pointer (some ⟨rb, 0, none⟩)) :: K) a → RSt gE E O w rb b cs Tb ((st.bind (rdLen flex)).map (·.2)) → o + off < cs.length →
    aget a u = .slice ad 0 0 → aget a l = .int .i32 n → (∀ m r, st.bind (rdLen flex) = some (m, r) → m = n) → (nul.isSome = true → n ≤ 0 → (ad.isSome = true ↔ ¬ (n < 0 ∧ nullAt nul ver = true))) →
    (∀ a' w' cs', RSt gE E O w' rb b cs' Tb ((st.bind (rd ver flex (.list nul esz sch))).map (·.2)) → Fr N lo t nt a a' → Keeps [rb, b] w w' → SameOut cs cs' (o + off) (o + (off + 1)) → (∀ v r, st.bind (rd ver flex (.list nul esz sch)) = some (v, r) → Rep RT O w' ver flex (.list nul esz sch) b (o + off) v) → Q .normal a' w') →
    (∀ a' w', st.bind (rd ver flex (.list nul esz sch)) = none → a'.tmps.size = nt → a'.defers = a.defers → aget a' rs = E → Keeps [rb, b] w w' → Q .ret a' w') → ct.wp P Q a w
theorem rdF_list0 {s bp rs u l v t1 t2 T' k U off r1 r2 r3 y1 y2 y3 y4 y5 y6 y7 y8 esz : Nat} {q1 q2 q3 q4 q5 q6 q7 q8 : String} {g1 g2 g3 g4 g5 g6 g7 g8 : Array Edge} {ct : Code} {nul : Option Int} {sch : Sch}
    (hk : KOK N lo t ((s, .int .i64 0) :: (bp, .int .i64 0) :: K)) (hT : FieldAt P T' k off) (hU : OneCell P U) (hD : Dims N nt lo t) (hd : t ≤ t1 ∧ t1 + 3 < nt ∧ lo ≤ v ∧ v < N ∧ t ≤ t2 ∧ t2 < nt ∧ lo ≤ u ∧ u < N ∧ lo ≤ l ∧ l < N ∧ u ≠ l)
    (h : ∀ (O : List Nat) (rb b o Tb : Nat) (a : Act) (w : World) (cs : List Value) (st : Option (List UInt8)) (Q : Exit → Act → World → Prop), a.tmps.size = nt → Holds ((s, .pointer (some ⟨b, o, none⟩)) :: (bp, .pointer (some ⟨rb, 0, none⟩)) :: K) a → RSt gE E O w rb b cs Tb st → o + off < cs.length → aget a u = .slice none 0 0 →
      (∀ a' w' cs', RSt gE E O w' rb b cs' Tb ((st.bind (rd ver flex (.list nul esz sch))).map (·.2)) → Fr N lo t nt a a' → Keeps [rb, b] w w' → SameOut cs cs' (o + off) (o + (off + 1)) → (∀ v r, st.bind (rd ver flex (.list nul esz sch)) = some (v, r) → Rep RT O w' ver flex (.list nul esz sch) b (o + off) v) → Q .normal a' w') →
      (∀ a' w', st.bind (rd ver flex (.list nul esz sch)) = none → a'.tmps.size = nt → a'.defers = a.defers → aget a' rs = E → Keeps [rb, b] w w' → Q .ret a' w') → ct.wp P Q a w) :
    RdF RT P N nt gE E ver flex K lo t s bp rs ((Code.region r1 #[⟨some t1, .move (.tmp s), y1, q1, g1, none⟩, ⟨some (t1 + 1), .nilCheck (.tmp t1), y2, q2, g2, none⟩, ⟨some (t1 + 2), .fieldAddr T' (.tmp (t1 + 1)) k, y3, q3, g3, none⟩,
      ⟨some (t1 + 3), .load U (.tmp (t1 + 2)), y4, q4, g4, none⟩, ⟨some v, .assign (.tmp (t1 + 3)), y5, q5, g5, none⟩] false).seq
      ((Code.region r2 #[⟨some t2, .move (.tmp v), y6, q6, g6, none⟩, ⟨some u, .assign (.tmp t2), y7, q7, g7, none⟩] false).seq
      ((Code.region r3 #[⟨some l, .assign (.const (.int .i32 0)), y8, q8, g8, none⟩] false).seq ct))) off (.list nul esz sch) := by
  intro O rb b o Tb a w cs st Q hN hh hst hF hq hr
  obtain ⟨d1, d2, d3, d4, d5, d6, d7, d8, d9, d10, d11⟩ := hd
  have x1 := hD.dOne; have x2 := hD.dLo; have x3 := hD.dT; have x4 := hD.dN
  have hc : cs[o + off]? = some (.slice none 0 0) := hF
  have hlt : o + off < cs.length := (List.getElem?_eq_some_iff.1 hc).1
  refine wp_seq (reg_load (x0 := nt) (lo := lo) hT hU hN hh.head (x := .slice none 0 0) (by rw [Addr.add_lit]; exact hst.blk.cell_some hc) ⟨hD.dT, d1, d2, d3, d4⟩ fun a1 hf1 hx1 => ?_)
  have hN1 := hf1.size.trans hN
  refine wp_seq (reg_copy (x0 := nt) (lo := lo) hN1 hx1 ⟨hD.dT, d5, d6, d7, d8⟩ fun a2 hf2 hx2 => ?_)
  refine wp_seq (wp_reg (wl_assign_c (wpList_nil ?_)))
  have hf3 : Fr N lo t nt a (a2.put (some l) (.int .i32 0)) := (hf1.trans hf2).trans ((Fr.refl N lo t nt a2).put _ _ (by omega))
  exact h O rb b o Tb _ w cs st Q (hf3.size.trans hN) (hh.frR (kokR hk) hD hf3) hst hlt (by rw [aget_put_other _ _ _ u (by omega)]; exact hx2) (fun a' w' cs' k1 k2 => hq a' w' cs' k1 (hf3.trans k2)) (fun a' w' k1 k2 k3 => hr a' w' k1 k2 (k3.trans hf3.defers))
theorem rdF_list {s bp rs u l v t1 t2 T' k U off r1 r2 r3 y1 y2 y3 y4 y5 y6 y7 y8 esz : Nat} {q1 q2 q3 q4 q5 q6 q7 q8 : String} {g1 g2 g3 g4 g5 g6 g7 g8 : Array Edge} {cl ct : Code} {sch : Sch}
    (hk : KOK N lo t ((s, .int .i64 0) :: (bp, .int .i64 0) :: K)) (hT : FieldAt P T' k off) (hU : OneCell P U) (hD : Dims N nt lo t) (hd : t ≤ t1 ∧ t1 + 3 < nt ∧ lo ≤ v ∧ v < N ∧ t ≤ t2 ∧ t2 < nt ∧ lo ≤ u ∧ u < N ∧ lo ≤ l ∧ l < N ∧ u ≠ l)
    (hl : RdLn P N nt gE E flex K lo t bp cl l) (ht : RdTail RT P N nt gE E ver flex K lo t s bp rs u l ct off none esz sch) :
    RdF RT P N nt gE E ver flex K lo t s bp rs ((Code.region r1 #[⟨some t1, .move (.tmp s), y1, q1, g1, none⟩, ⟨some (t1 + 1), .nilCheck (.tmp t1), y2, q2, g2, none⟩, ⟨some (t1 + 2), .fieldAddr T' (.tmp (t1 + 1)) k, y3, q3, g3, none⟩,
      ⟨some (t1 + 3), .load U (.tmp (t1 + 2)), y4, q4, g4, none⟩, ⟨some v, .assign (.tmp (t1 + 3)), y5, q5, g5, none⟩] false).seq
      ((Code.region r2 #[⟨some t2, .move (.tmp v), y6, q6, g6, none⟩, ⟨some u, .assign (.tmp t2), y7, q7, g7, none⟩] false).seq
      ((Code.region r3 #[⟨some l, .assign (.const (.int .i32 0)), y8, q8, g8, none⟩] false).seq (cl.seq ct)))) off (.list none esz sch) := by
  refine rdF_list0 hk hT hU hD hd fun O rb b o Tb a w cs st Q hN hh hst hlt hu hq hr => ?_
  refine wp_seq (hl O rb b Tb a w cs st _ hN hh.tail hst fun a1 w1 n hl1 hst1 hf1 hs1 hk1 hn1 => ?_)
  exact ht O rb b o Tb a1 w1 cs st Q none n (hf1.size.trans hN) (hh.frR (kokR hk) hD hf1) hst1 hlt ((hs1 u hd.2.2.2.2.2.2.2.2.2.2 hd.2.2.2.2.2.2.2.1).trans hu) hl1 hn1 (fun h => nomatch h)
    (fun a' w' cs' k1 k2 k3 => hq a' w' cs' k1 (hf1.trans k2) ((keeps_rb hk1).trans k3)) (fun a' w' k1 k2 k3 k4 k5 => hr a' w' k1 k2 (k3.trans hf1.defers) k4 ((keeps_rb hk1).trans k5))
theorem run_build0 {Ts e y : Nat} {q : String} {g : Array Edge} {d : Option Nat} {i : TypeInfo} (hT : P.underlying Ts = some (.slice e)) (hi : P.info? e = some i) (w : World) (a : Act) :
    (execOp a.eval ⟨d, .buildSlice Ts 0 #[], y, q, g, none⟩).run P w = .ok (.value (.slice (some ⟨w.heap.size, 0, none⟩) 0 0)) (w.alloc (.cells #[] e)) := by
  simp [execOp, Instr.buildSlice, run_underlying hT, sizeOf, typeInfo, hi, newRow, Instr.fill]
  rw [show Array.range 0 = #[] from rfl, Array.map_empty]
theorem reg_nul {a : Act} {w : World} {Q : Exit → Act → World → Prop} {u l t1 r x0 ty1 ty2 ty3 ty4 ty5 ty6 T U T' U' : Nat} {p1 p2 p3 p4 p5 p6 : String} {e1 e2 e3 e4 e5 e6 : Array Edge} {x n m : Int} (hN : a.tmps.size = nt) (hs : aget a u = .int .i16 x) (hl : aget a l = .int .i32 n) (hd : N ≤ t ∧ t ≤ t1 ∧ t1 + 5 < nt ∧ lo ≤ N ∧ u ≠ t1 ∧ u ≠ t1 + 1 ∧ u ≠ t1 + 2 ∧ l ≠ t1 ∧ l ≠ t1 + 1 ∧ l ≠ t1 + 2)
    (h : ∀ a', Fr N lo t x0 a a' → aget a' (t1 + 5) = .bool (decide (x < m) || decide (n = 0)) → Q .normal a' w) :
    (Code.region r #[⟨some t1, .move (.tmp u), ty1, p1, e1, none⟩, ⟨some (t1 + 1), .binOp .lss T (.tmp t1) (.const (.int .i16 m)) U, ty2, p2, e2, none⟩, ⟨some (t1 + 2), .move (.tmp (t1 + 1)), ty3, p3, e3, none⟩,
      ⟨some (t1 + 3), .move (.tmp l), ty4, p4, e4, some (2, false)⟩, ⟨some (t1 + 4), .binOp .eql T' (.tmp (t1 + 3)) (.const (.int .i32 0)) U', ty5, p5, e5, some (2, false)⟩,
      ⟨some (t1 + 5), .pick (.tmp (t1 + 2)) (.const (.bool true)) (.tmp (t1 + 4)), ty6, p6, e6, none⟩] false).wp P Q a w := by
  obtain ⟨h1, h2, h3, h4, h5, h6, h7, h8, h9, h10⟩ := hd
  refine wp_reg ?_
  refine wl_move hs ?_
  refine wl_bin (r := .bool (decide (x < m))) (aget_put_same _ _ _ (by (first | rw [hN] | simp only [size_put, hN]); omega)) (eqGuard_at_int ..) (by rw [run_cmp_i16]) ?_
  refine wl_move (aget_put_same _ _ _ (by (first | rw [hN] | simp only [size_put, hN]); omega)) ?_
  have hy : ∀ (A : Act) (b : Bool) (l : Array Oper) (o : Oper), l[2]? = some o → o.dst = some (t1 + 2) → aget A (t1 + 2) = .bool b → t1 + 2 < A.tmps.size → yielded l A.tmps 2 = some b := by
    intro A b l o hl ho hA hlt
    unfold aget at hA
    rw [Array.getD_eq_getD_getElem?, Array.getElem?_eq_getElem hlt] at hA
    simp at hA
    simp [yielded, hl, ho, hlt, hA]
  by_cases hn : x < m
  · rw [decide_eq_true hn]
    refine wpList_step fun K hK => ?_
    rw [if_neg (by
      simp only [Region.wanted]
      rw [hy _ true _ _ rfl rfl (aget_put_same _ _ _ (by (first | rw [hN] | simp only [size_put, hN]); omega)) (by (first | rw [hN] | simp only [size_put, hN]); omega)]
      decide)]
    refine hK _ _ ?_
    refine wpList_step fun K2 hK2 => ?_
    rw [if_neg (by
      simp only [Region.wanted]
      rw [hy _ true _ _ rfl rfl (by rw [aget_put_other _ _ _ _ (by omega)]; exact aget_put_same _ _ _ (by (first | rw [hN] | simp only [size_put, hN]); omega)) (by (first | rw [hN] | simp only [size_put, hN]); omega)]
      decide)]
    refine hK2 _ _ ?_
    refine wl_value (v := .bool (decide (x < m) || decide (n = 0))) (w' := w) rfl ?_ ?_
    · have e2 : ∀ A : Act, aget A (t1 + 2) = .bool true → (execOp A.eval ⟨some (t1 + 5), .pick (.tmp (t1 + 2)) (.const (.bool true)) (.tmp (t1 + 4)), ty6, p6, e6, none⟩).run P w = .ok (.value (.bool (decide (x < m) || decide (n = 0)))) w := by
        intro A hA
        have e3 : A.eval (.const (.bool true)) = .bool true := rfl
        simp [execOp, aget_eval, hA, asBool, hn, e3]
      refine e2 _ ?_
      rw [aget_put_other _ _ _ _ (by omega), aget_put_other _ _ _ _ (by omega)]
      exact aget_put_same _ _ _ (by (first | rw [hN] | simp only [size_put, hN]); omega)
    · exact wpList_nil (h _ (((((((Fr.refl N lo t x0 a).put _ _ (by omega)).put _ _ (by omega)).put _ _ (by omega)).put _ _ (by omega)).put _ _ (by omega)).put _ _ (by omega)) (aget_put_same _ _ _ (by (first | rw [hN] | simp only [size_put, hN]); omega)))
  · rw [decide_eq_false hn]
    refine wpList_step fun K hK => ?_
    rw [if_pos (by
      simp only [Region.wanted]
      rw [hy _ false _ _ rfl rfl (aget_put_same _ _ _ (by (first | rw [hN] | simp only [size_put, hN]); omega)) (by (first | rw [hN] | simp only [size_put, hN]); omega)]
      rfl)]
    unfold Oper.wp
    have e0 : ∀ A : Act, aget A l = .int .i32 n → (execOp A.eval ⟨some (t1 + 3), .move (.tmp l), ty4, p4, e4, some (2, false)⟩).run P w = .ok (.value (.int .i32 n)) w := by
      intro A hA
      simp [execOp, aget_eval, hA]
    rw [e0 _ (by rw [aget_put_other _ _ _ _ (by omega), aget_put_other _ _ _ _ (by omega), aget_put_other _ _ _ _ (by omega)]; exact hl)]
    refine hK _ _ ?_
    refine wpList_step fun K2 hK2 => ?_
    rw [if_pos (by
      simp only [Region.wanted]
      rw [hy _ false _ _ rfl rfl (by rw [aget_put_other _ _ _ _ (by omega)]; exact aget_put_same _ _ _ (by (first | rw [hN] | simp only [size_put, hN]); omega)) (by (first | rw [hN] | simp only [size_put, hN]); omega)]
      rfl)]
    unfold Oper.wp
    have e1 : ∀ A : Act, aget A (t1 + 3) = .int .i32 n → (execOp A.eval ⟨some (t1 + 4), .binOp .eql T' (.tmp (t1 + 3)) (.const (.int .i32 0)) U', ty5, p5, e5, some (2, false)⟩).run P w = .ok (.value (.bool (decide (n = 0)))) w := by
      intro A hA
      have e2 : A.eval (.tmp (t1 + 3)) = .int .i32 n := hA
      have e3 : A.eval (.const (.int .i32 0)) = .int .i32 0 := rfl
      simp [execOp, e2, e3, eqGuard_at_int, binOp, Op.intCmp]
      try rfl
    rw [e1 _ (aget_put_same _ _ _ (by (first | rw [hN] | simp only [size_put, hN]); omega))]
    refine hK2 _ _ ?_
    refine wl_value (v := .bool (decide (x < m) || decide (n = 0))) (w' := w) rfl ?_ ?_
    · have e2 : ∀ A : Act, aget A (t1 + 2) = .bool false → aget A (t1 + 4) = .bool (decide (n = 0)) → (execOp A.eval ⟨some (t1 + 5), .pick (.tmp (t1 + 2)) (.const (.bool true)) (.tmp (t1 + 4)), ty6, p6, e6, none⟩).run P w = .ok (.value (.bool (decide (x < m) || decide (n = 0)))) w := by
        intro A hA hB
        simp [execOp, aget_eval, hA, hB, asBool, hn]
      refine e2 _ ?_ (aget_put_same _ _ _ (by (first | rw [hN] | simp only [size_put, hN]); omega))
      rw [aget_put_other _ _ _ _ (by omega), aget_put_other _ _ _ _ (by omega)]
      exact aget_put_same _ _ _ (by (first | rw [hN] | simp only [size_put, hN]); omega)
    · exact wpList_nil (h _ (((((((Fr.refl N lo t x0 a).put _ _ (by omega)).put _ _ (by omega)).put _ _ (by omega)).put _ _ (by omega)).put _ _ (by omega)).put _ _ (by omega)) (aget_put_same _ _ _ (by (first | rw [hN] | simp only [size_put, hN]); omega)))
/-- 'if version < n || l == 0 { a = []T{} }'. -/
theorem rdF_listN {s bp rs u l v sv t1 t2 t3 t4 T' k U off r1 r2 r3 r4 r5 y1 y2 y3 y4 y5 y6 y7 y8 y9 y10 y11 y12 y13 y14 y15 y16 J1 J2 J3 J4 Ts e esz : Nat} {q1 q2 q3 q4 q5 q6 q7 q8 q9 q10 q11 q12 q13 q14 q15 q16 : String} {g1 g2 g3 g4 g5 g6 g7 g8 g9 g10 g11 g12 g13 g14 g15 g16 : Array Edge} {cl ct : Code} {sch : Sch} {m : Int}
    (hk : KOK N lo t ((s, .int .i64 0) :: (bp, .int .i64 0) :: K)) (hT : FieldAt P T' k off) (hU : OneCell P U) (hD : Dims N nt lo t) (hd : t ≤ t1 ∧ t1 + 3 < nt ∧ lo ≤ v ∧ v < N ∧ t ≤ t2 ∧ t2 < nt ∧ lo ≤ u ∧ u < N ∧ lo ≤ l ∧ l < N ∧ u ≠ l) (hd2 : t ≤ t3 ∧ t3 + 5 < nt ∧ t ≤ t4 ∧ t4 < nt)
    (hTs : P.underlying Ts = some (.slice e)) (hsv : (sv, Value.int .i16 ver) ∈ K) (hl : RdLn P N nt gE E flex K lo t bp cl l) (ht : RdTail RT P N nt gE E ver flex K lo t s bp rs u l ct off (some m) esz sch) (hsz : ∃ i, P.info? e = some i ∧ i.size = esz) :
    RdF RT P N nt gE E ver flex K lo t s bp rs ((Code.region r1 #[⟨some t1, .move (.tmp s), y1, q1, g1, none⟩, ⟨some (t1 + 1), .nilCheck (.tmp t1), y2, q2, g2, none⟩, ⟨some (t1 + 2), .fieldAddr T' (.tmp (t1 + 1)) k, y3, q3, g3, none⟩,
      ⟨some (t1 + 3), .load U (.tmp (t1 + 2)), y4, q4, g4, none⟩, ⟨some v, .assign (.tmp (t1 + 3)), y5, q5, g5, none⟩] false).seq
      ((Code.region r2 #[⟨some t2, .move (.tmp v), y6, q6, g6, none⟩, ⟨some u, .assign (.tmp t2), y7, q7, g7, none⟩] false).seq
      ((Code.region r3 #[⟨some l, .assign (.const (.int .i32 0)), y8, q8, g8, none⟩] false).seq (cl.seq
      (((Code.region r4 #[⟨some t3, .move (.tmp sv), y9, q9, g9, none⟩, ⟨some (t3 + 1), .binOp .lss J1 (.tmp t3) (.const (.int .i16 m)) J2, y10, q10, g10, none⟩, ⟨some (t3 + 2), .move (.tmp (t3 + 1)), y11, q11, g11, none⟩,
        ⟨some (t3 + 3), .move (.tmp l), y12, q12, g12, some (2, false)⟩, ⟨some (t3 + 4), .binOp .eql J3 (.tmp (t3 + 3)) (.const (.int .i32 0)) J4, y13, q13, g13, some (2, false)⟩, ⟨some (t3 + 5), .pick (.tmp (t3 + 2)) (.const (.bool true)) (.tmp (t3 + 4)), y14, q14, g14, none⟩] false).seq
        (.cond (.tmp (t3 + 5)) (Code.region r5 #[⟨some t4, .buildSlice Ts 0 #[], y15, q15, g15, none⟩, ⟨some u, .assign (.tmp t4), y16, q16, g16, none⟩] false) .skip)).seq ct))))) off (.list (some m) esz sch) := by
  refine rdF_list0 hk hT hU hD hd fun O rb b o Tb a w cs st Q hN hh hst hlt hu hq hr => ?_
  obtain ⟨d1, d2, d3, d4, d5, d6, d7, d8, d9, d10, d11⟩ := hd
  obtain ⟨c1, c2, c3, c4⟩ := hd2
  have x1 := hD.dOne; have x2 := hD.dLo; have x3 := hD.dT; have x4 := hD.dN
  have hsvk := hk _ (List.mem_cons_of_mem _ (List.mem_cons_of_mem _ hsv))
  simp only at hsvk
  refine wp_seq (hl O rb b Tb a w cs st _ hN hh.tail hst fun a1 w1 n hl1 hst1 hf1 hs1 hk1 hn1 => ?_)
  have hN1 := hf1.size.trans hN
  have hh1 := hh.frR (kokR hk) hD hf1
  have hu1 : aget a1 u = .slice none 0 0 := (hs1 u d11 d8).trans hu
  refine wp_seq (wp_seq (reg_nul (x0 := nt) (lo := N) hN1 (hh1 _ (List.mem_cons_of_mem _ (List.mem_cons_of_mem _ hsv))) hl1 ⟨x3, c1, c2, Nat.le_refl _, by omega, by omega, by omega, by omega, by omega, by omega⟩ fun a2 hf2 hx2 => ?_))
  have hN2 := hf2.size.trans hN1
  have hf02 : Fr N lo t nt a a2 := hf1.trans (hf2.mono x2 (Nat.le_refl _))
  have hh2 := hh.frR (kokR hk) hD hf02
  have hs2 : ∀ q, q < N → aget a2 q = aget a1 q := fun q hq => hf2.same q (by omega) (.inl hq)
  by_cases hc : ver < m ∨ n = 0
  · refine wp_cond_true (hx2.trans (by simpa using hc)) (wp_reg ?_)
    obtain ⟨ie, hie, hies⟩ := hsz
    refine wl_value (v := .slice (some ⟨w1.heap.size, 0, none⟩) 0 0) (w' := w1.alloc (.cells #[] e)) rfl (run_build0 hTs hie w1 a2) ?_
    refine wl_assign (aget_put_same _ _ _ (by omega)) ?_
    refine wpList_nil ?_
    have hf3 : Fr N lo t nt a2 ((a2.put (some t4) (.slice (some ⟨w1.heap.size, 0, none⟩) 0 0)).put (some u) (.slice (some ⟨w1.heap.size, 0, none⟩) 0 0)) := ((Fr.refl N lo t nt a2).put _ _ (by omega)).put _ _ (by omega)
    have hu3 : aget ((a2.put (some t4) (.slice (some ⟨w1.heap.size, 0, none⟩) 0 0)).put (some u) (.slice (some ⟨w1.heap.size, 0, none⟩) 0 0)) u = .slice (some ⟨w1.heap.size, 0, none⟩) 0 0 := aget_put_same _ _ _ (by simp only [size_put]; omega)
    have hl3 : aget ((a2.put (some t4) (.slice (some ⟨w1.heap.size, 0, none⟩) 0 0)).put (some u) (.slice (some ⟨w1.heap.size, 0, none⟩) 0 0)) l = .int .i32 n := by rw [aget_put_other _ _ _ l (by omega), aget_put_other _ _ _ l (by omega), hs2 l (by omega)]; exact hl1
    generalize ((a2.put (some t4) (.slice (some ⟨w1.heap.size, 0, none⟩) 0 0)).put (some u) (.slice (some ⟨w1.heap.size, 0, none⟩) 0 0)) = a3 at *
    have hk2 : Keeps [] w1 (w1.alloc (.cells #[] e)) := (Keeps.refl [] w1).alloc _
    have hst2 := hst1.upd (hst1.blk.keeps hk2 (by simp)) (hk2.mono (by simp))
    have hf03 := hf02.trans hf3
    have hkk : Keeps [rb, b] w (w1.alloc (.cells #[] e)) := (keeps_rb hk1).trans (hk2.mono (by simp))
    exact ht O rb b o Tb a3 _ cs st Q _ n (hf03.size.trans hN) (hh.frR (kokR hk) hD hf03) hst2 hlt hu3 hl3 hn1 (fun _ hn => by
        simp only [Option.isSome_some, true_iff, nullAt, decide_eq_true_eq]
        omega)
      (fun a' w' cs' k1 k2 k3 => hq a' w' cs' k1 (hf03.trans k2) (hkk.trans k3)) (fun a' w' k1 k2 k3 k4 k5 => hr a' w' k1 k2 (k3.trans hf03.defers) k4 (hkk.trans k5))
  · refine wp_cond_false (hx2.trans (by simpa using hc)) (wp_skip ?_)
    exact ht O rb b o Tb a2 w1 cs st Q none n hN2 hh2 hst1 hlt ((hs2 u (by omega)).trans hu1) ((hs2 l (by omega)).trans hl1) hn1 (fun _ hn => by
        simp only [Option.isSome_none, Bool.false_eq_true, false_iff, nullAt, decide_eq_true_eq]
        omega)
      (fun a' w' cs' k1 k2 k3 => hq a' w' cs' k1 (hf02.trans k2) ((keeps_rb hk1).trans k3)) (fun a' w' k1 k2 k3 k4 k5 => hr a' w' k1 k2 (k3.trans hf02.defers) k4 ((keeps_rb hk1).trans k5))
/-- What is asked of a Default. -/
def DefC (P : Program) (F : Nat) (e : Sch) : Prop := ∀ (w : World) (b o T : Nat) (cs : List Value), Blk w b cs T → Fresh cs o e → Calls P F #[.pointer (some ⟨b, o, none⟩)] w fun en w' => ∃ cs', en = .returned (.tuple #[]) ∧ Blk w' b cs' T ∧ SameOut cs cs' o (o + top e) ∧ Keeps [b] w w' ∧ Fresh cs' o e
/-- 'v := &a[i]; v.Default(); s := v; ..'. -/
theorem rdEl_part {u i bp rs v s t1 t2 t3 FD T e r1 r2 r3 y1 y2 y3 y4 y5 y6 y7 y8 esz lo' t' : Nat} {q1 q2 q3 q4 q5 q6 q7 q8 : String} {g1 g2 g3 g4 g5 g6 g7 g8 : Array Edge} {at_ : Array TypeId} {c : Code} {sch : Sch}
    (hk : KOK N lo t ((bp, .int .i64 0) :: K)) (hT : P.underlying T = some (.slice e)) (hE : ∃ i, P.info? e = some i ∧ i.size = esz) (he : Enters P FD) (hDef : DefC P FD sch) (hD : Dims N nt lo t) (hD' : Dims N nt lo' t')
    (hd : t ≤ t1 ∧ t1 + 2 < nt ∧ t ≤ t2 ∧ t2 + 1 < nt ∧ t ≤ t3 ∧ t3 < nt ∧ lo ≤ v ∧ v < N ∧ lo ≤ s ∧ s < N ∧ lo ≤ lo' ∧ t ≤ t' ∧ i < N ∧ v ≠ s) (hd2 : KOK N lo t' ((bp, .int .i64 0) :: K) ∧ True) (htop : top sch ≤ esz) (h : RdS RT P N nt gE E ver flex K lo' t' s bp rs c 0 sch) :
    RdEl RT P N nt gE E ver flex K lo t u i bp rs ((Code.region r1 #[⟨some t1, .move (.tmp u), y1, q1, g1, none⟩, ⟨some (t1 + 1), .move (.tmp i), y2, q2, g2, none⟩, ⟨some (t1 + 2), .indexAddr T (.tmp t1) (.tmp (t1 + 1)), y3, q3, g3, none⟩, ⟨some v, .assign (.tmp (t1 + 2)), y4, q4, g4, none⟩] false).seq
      ((Code.region r2 #[⟨some t2, .move (.tmp v), y5, q5, g5, none⟩, ⟨some (t2 + 1), .call { callee := .value (.func FD), args := #[.tmp t2], argTypes := at_ }, y6, q6, g6, none⟩] false).seq
      ((Code.region r3 #[⟨some t3, .move (.tmp v), y7, q7, g7, none⟩, ⟨some s, .assign (.tmp t3), y8, q8, g8, none⟩] false).seq c))) esz sch := by
  intro O rb p Tp n cap k a w cs st Q hN hh hkn hst hF hq hr
  obtain ⟨d1, d2, d3, d4, d5, d6, d7, d8, d9, d10, d11, d12, d13, d14⟩ := hd
  have x1 := hD.dOne; have x2 := hD.dLo; have x3 := hD.dT; have x4 := hD.dN
  have hk' : ∀ x, KOK N lo t ((bp, x) :: K) := fun x q hq => by
    simp only [List.mem_cons] at hq
    rcases hq with rfl | hq
    · exact hk (bp, .int .i64 0) (by simp)
    · exact hk q (by simp [hq])
  refine wp_seq (wp_reg ?_)
  refine wl_move hh.tail.head ?_
  refine wl_move (v := .int .i32 (k : Nat)) (by rw [aget_put_other _ _ _ _ (by omega)]; exact hh.head) ?_
  refine wl_index32 (k := k) hT hE hkn (by rw [aget_put_other _ _ _ _ (by omega)]; exact aget_put_same _ _ _ (by omega)) (aget_put_same _ _ _ (by simp only [size_put]; omega)) ?_
  rw [Addr.add_lit, Nat.zero_add]
  refine wl_assign (aget_put_same _ _ _ (by simp only [size_put]; omega)) ?_
  refine wpList_nil ?_
  have hf1 : Fr N lo t nt a ((((a.put (some t1) (.slice (some ⟨p, 0, none⟩) n cap)).put (some (t1 + 1)) (.int .i32 (k : Nat))).put (some (t1 + 2)) (.pointer (some ⟨p, k * esz, none⟩))).put (some v) (.pointer (some ⟨p, k * esz, none⟩))) := ((((Fr.refl N lo t nt a).put _ _ (by omega)).put _ _ (by omega)).put _ _ (by omega)).put _ _ (by omega)
  have hv1 : aget ((((a.put (some t1) (.slice (some ⟨p, 0, none⟩) n cap)).put (some (t1 + 1)) (.int .i32 (k : Nat))).put (some (t1 + 2)) (.pointer (some ⟨p, k * esz, none⟩))).put (some v) (.pointer (some ⟨p, k * esz, none⟩))) v = .pointer (some ⟨p, k * esz, none⟩) := aget_put_same _ _ _ (by simp only [size_put]; omega)
  generalize ((((a.put (some t1) (.slice (some ⟨p, 0, none⟩) n cap)).put (some (t1 + 1)) (.int .i32 (k : Nat))).put (some (t1 + 2)) (.pointer (some ⟨p, k * esz, none⟩))).put (some v) (.pointer (some ⟨p, k * esz, none⟩))) = a1 at *
  have hN1 := hf1.size.trans hN
  simp only [Exit.then]
  refine wp_seq (wp_reg ?_)
  refine wl_move hv1 ?_
  refine wl_call (R := fun en w' => ∃ cs', en = .returned (.tuple #[]) ∧ Blk w' p cs' Tp ∧ SameOut cs cs' (k * esz) (k * esz + top sch) ∧ Keeps [p] w w' ∧ Fresh cs' (k * esz) sch) he ?_ ?_
  · simp only [List.map_toArray, List.map_cons, List.map_nil, aget_eval]
    rw [aget_put_same _ _ _ (by omega)]
    exact hDef w p (k * esz) Tp cs hst.blk hF
  rintro en w2 ⟨cs2, rfl, hb2, hs2, hk2, hF2⟩
  refine ⟨_, rfl, wpList_nil ?_⟩
  have hst2 := hst.upd hb2 hk2
  have hf2 : Fr N lo t nt a1 ((a1.put (some t2) (.pointer (some ⟨p, k * esz, none⟩))).put (some (t2 + 1)) (.tuple #[])) := ((Fr.refl N lo t nt a1).put _ _ (by omega)).put _ _ (by omega)
  have hv2 : aget ((a1.put (some t2) (.pointer (some ⟨p, k * esz, none⟩))).put (some (t2 + 1)) (.tuple #[])) v = .pointer (some ⟨p, k * esz, none⟩) := by rw [aget_put_other _ _ _ v (by omega), aget_put_other _ _ _ v (by omega)]; exact hv1
  generalize ((a1.put (some t2) (.pointer (some ⟨p, k * esz, none⟩))).put (some (t2 + 1)) (.tuple #[])) = a2 at *
  have hN2 := hf2.size.trans hN1
  simp only [Exit.then]
  refine wp_seq (wp_reg ?_)
  refine wl_move hv2 ?_
  refine wl_assign (aget_put_same _ _ _ (by omega)) ?_
  refine wpList_nil ?_
  have hf3 : Fr N lo t nt a2 ((a2.put (some t3) (.pointer (some ⟨p, k * esz, none⟩))).put (some s) (.pointer (some ⟨p, k * esz, none⟩))) := ((Fr.refl N lo t nt a2).put _ _ (by omega)).put _ _ (by omega)
  have hs3 : aget ((a2.put (some t3) (.pointer (some ⟨p, k * esz, none⟩))).put (some s) (.pointer (some ⟨p, k * esz, none⟩))) s = .pointer (some ⟨p, k * esz, none⟩) := aget_put_same _ _ _ (by simp only [size_put]; omega)
  generalize ((a2.put (some t3) (.pointer (some ⟨p, k * esz, none⟩))).put (some s) (.pointer (some ⟨p, k * esz, none⟩))) = a3 at *
  have hf03 := (hf1.trans hf2).trans hf3
  have hh3 : Holds ((bp, .pointer (some ⟨rb, 0, none⟩)) :: K) a3 := hh.tail.tail.frR (hk' _) hD hf03
  simp only [Exit.then]
  have hkk : Keeps [rb, p] w w2 := hk2.mono (by simp)
  refine h O rb p (k * esz) Tp a3 w2 cs2 st Q (hf03.size.trans hN) (hh3.cons hs3) hst2 hF2 (fun a4 w4 cs4 k1 k2 k3 k4 k5 => ?_) (fun a4 w4 k1 k2 k3 k4 k5 => hr a4 w4 k1 k2 (k3.trans hf03.defers) k4 (hkk.trans k5))
  refine hq a4 w4 cs4 k1 (hf03.trans (k2.mono d11 d12)) (hkk.trans k3) (hs2.trans k4 (by omega) (by omega)) k5
theorem KOKmono {lo' t' : Nat} (h : KOK N lo t K) (h1 : lo ≤ lo') (h2 : t ≤ t') : KOK N lo' t' K := fun p hp => by have := h p hp; omega
/-- A value of a list: '..; a[i] = v'. -/
theorem rdEl_leaf {u i bp rs v t1 T e U r1 y1 y2 y3 y4 y5 : Nat} {q1 q2 q3 q4 q5 : String} {g1 g2 g3 g4 g5 : Array Edge} {c : Code} {lf : Leaf}
    (hk : KOK N lo t ((bp, .int .i64 0) :: K)) (hT : P.underlying T = some (.slice e)) (hE : ∃ i, P.info? e = some i ∧ i.size = 1) (hU : OneCell P U) (hD : Dims N nt lo t) (hd : t ≤ t1 ∧ t1 + 3 < nt ∧ v < N ∧ i < lo ∧ u < lo) (hlf : lf ≠ .uuid) (h : RdL P N nt gE E ver flex K lo t bp c v lf) :
    RdEl RT P N nt gE E ver flex K lo t u i bp rs (c.seq (.region r1 #[⟨some t1, .move (.tmp u), y1, q1, g1, none⟩, ⟨some (t1 + 1), .move (.tmp i), y2, q2, g2, none⟩, ⟨some (t1 + 2), .move (.tmp v), y3, q3, g3, none⟩, ⟨some (t1 + 3), .indexAddr T (.tmp t1) (.tmp (t1 + 1)), y4, q4, g4, none⟩,
      ⟨none, .store U (.tmp (t1 + 3)) (.tmp (t1 + 2)), y5, q5, g5, none⟩] false)) 1 (.leaf lf) := by
  intro O rb p Tp n cap k a w cs st Q hN hh hkn hst hF hq hr
  obtain ⟨d1, d2, d3, d4, d5⟩ := hd
  have x1 := hD.dOne; have x2 := hD.dLo; have x3 := hD.dT; have x4 := hD.dN
  have hl : k * 1 < cs.length := by cases lf <;> first | exact hF | exact absurd rfl hlf
  refine wp_seq (h O rb p Tp a w cs st _ hN hh.tail.tail hst fun a1 w1 x hx hone hst1 hf1 hk1 hlv => ?_)
  have hN1 := hf1.size.trans hN
  have hu1 : aget a1 u = .slice (some ⟨p, 0, none⟩) n cap := (hf1.same u (by omega) (.inl d5)).trans hh.tail.head
  have hi1 : aget a1 i = .int .i32 (k : Nat) := (hf1.same i (by omega) (.inl d4)).trans hh.head
  refine wp_reg ?_
  refine wl_move hu1 ?_
  refine wl_move (v := .int .i32 (k : Nat)) (by rw [aget_put_other _ _ _ _ (by omega)]; exact hi1) ?_
  refine wl_move (v := x) (by rw [aget_put_other _ _ _ v (by omega), aget_put_other _ _ _ v (by omega)]; exact hx) ?_
  refine wl_index32 (k := k) hT hE hkn (by rw [aget_put_other _ _ _ t1 (by omega), aget_put_other _ _ _ t1 (by omega)]; exact aget_put_same _ _ _ (by omega)) (by rw [aget_put_other _ _ _ (t1 + 1) (by omega)]; exact aget_put_same _ _ _ (by simp only [size_put]; omega)) ?_
  rw [Addr.add_lit, Nat.zero_add]
  refine wl_store (w' := w1.setCell ⟨p, k * 1, none⟩ x) ?_ ?_
  · rw [aget_eval, aget_eval, aget_put_same _ _ _ (by simp only [size_put]; omega), aget_put_other _ _ _ (t1 + 2) (by omega), aget_put_same _ _ _ (by simp only [size_put]; omega)]
    exact run_store_blk hU hst1.blk hl hone
  · refine wpList_nil (hq _ _ _ (hst1.store (k * 1) x) (hf1.trans (((((Fr.refl N lo t nt a1).put _ _ (by omega)).put _ _ (by omega)).put _ _ (by omega)).put _ _ (by omega))) ((keeps_rb hk1).trans (keeps_b w1 _ _)) (SameOut.set cs (k * 1) x) fun gv r hv => ?_)
    have hb : Keeps O w1 (w1.setCell ⟨p, k * 1, none⟩ x) := (Keeps.refl O w1).setCell hst.bO _
    exact ((hlv gv r hv).keeps hb).rep ((hst1.blk.set (k * 1) x).cell_some (by rw [List.getElem?_set_self hl]))
theorem rdEl_var {u i bp rs v r y : Nat} {q : String} {g : Array Edge} {z : Value} {c : Code} {esz : Nat} {sch : Sch} (hk : KOK N lo t ((bp, .int .i64 0) :: K)) (hD : Dims N nt lo t) (hd : lo ≤ v ∧ v < N ∧ i < lo ∧ u < lo) (h : RdEl RT P N nt gE E ver flex K lo t u i bp rs c esz sch) :
    RdEl RT P N nt gE E ver flex K lo t u i bp rs ((Code.region r #[⟨some v, .assign (.const z), y, q, g, none⟩] false).seq c) esz sch := by
  intro O rb p Tp n cap k a w cs st Q hN hh hkn hst hF hq hr
  have x1 := hD.dOne; have x2 := hD.dLo; have x3 := hD.dT; have x4 := hD.dN
  refine wp_seq (wp_reg (wl_assign_c (wpList_nil ?_)))
  have hf : Fr N lo t nt a (a.put (some v) z) := (Fr.refl N lo t nt a).put _ _ (by omega)
  have hh' : Holds ((i, .int .i32 (k : Nat)) :: (u, .slice (some ⟨p, 0, none⟩) n cap) :: (bp, .pointer (some ⟨rb, 0, none⟩)) :: K) (a.put (some v) z) := by
    intro q hq
    have hq' := hq
    simp only [List.mem_cons] at hq'
    have hlow : q.1 ≠ nt ∧ (q.1 < lo ∨ (N ≤ q.1 ∧ q.1 < t)) := by
      rcases hq' with rfl | rfl | rfl | hq'
      · exact ⟨by simp only; omega, .inl hd.2.2.1⟩
      · exact ⟨by simp only; omega, .inl hd.2.2.2⟩
      · have := hk (bp, .int .i64 0) (by simp); exact ⟨by simp only at this ⊢; omega, this.2⟩
      · have := hk q (by simp [hq']); exact ⟨by omega, this.2⟩
    exact (hf.same q.1 hlow.1 hlow.2).trans (hh q hq)
  exact h O rb p Tp n cap k _ w cs st Q (hf.size.trans hN) hh' hkn hst hF (fun a' w' cs' k1 k2 => hq a' w' cs' k1 (hf.trans k2)) (fun a' w' k1 k2 k3 => hr a' w' k1 k2 (k3.trans hf.defers))
theorem RdEl.mono {u i bp rs lo' t' esz : Nat} {c : Code} {sch : Sch} (h : RdEl RT P N nt gE E ver flex K lo' t' u i bp rs c esz sch) (h1 : lo ≤ lo') (h2 : t ≤ t') : RdEl RT P N nt gE E ver flex K lo t u i bp rs c esz sch :=
  fun O rb p Tp n cap k a w cs st Q hN hh hkn hst hF hq hr => h O rb p Tp n cap k a w cs st Q hN hh hkn hst hF (fun a' w' cs' k1 k2 => hq a' w' cs' k1 (k2.mono h1 h2)) hr
/-- What is asked of the function that reads tags: a map, or none. -/
def TagsRd (RT : RTags) (P : Program) (F : Nat) : Prop := ∀ (O : List Nat) (rb : Nat) (w : World) (st : Option (List UInt8)), rb ∈ O → (∀ k, k ∈ O → k < w.heap.size) → Rdr O w rb st →
  Calls P F #[.pointer (some ⟨rb, 0, none⟩)] w fun e w' => ∃ m, e = .returned (.agg #[.map m]) ∧ Rdr O w' rb ((st.bind rdTagsRaw).map (·.2)) ∧ Keeps [rb] w w' ∧ ∀ l r, st.bind rdTagsRaw = some (l, r) → ∀ (w2 : World) (b o : Nat), Keeps O w' w2 → w2.cell? ⟨b, o, none⟩ = some (.map m) → RT O w2 b o (tagSort l)
theorem run_store_agg {U : Nat} (hU : ∃ i, P.info? U = some i ∧ i.size = 1) {w : World} {b i T : Nat} {c : List Value} {y : Value} (h : Blk w b c T) (hi : i < c.length) (hy : y.oneCell' = true) :
    (Instr.storeAt U (.pointer (some ⟨b, i, none⟩)) (.agg #[y])).run P w = .ok () (w.setCell ⟨b, i, none⟩ y) := by
  obtain ⟨t, ht, hs⟩ := hU
  have h1 := h.cell_some (List.getElem?_eq_getElem hi)
  have h2 := h.frozen i
  simp [Instr.storeAt, Instr.sureAddr, storeVar, sizeOf, typeInfo, ht, hs, Value.cells, storeCells, Addr.add]
  rw [run_store _ _ _ _ _ hy, h1]
  simp [h2]
theorem rdS_tags {s bp rs sf t0 t1 F T' k U off n r0 r1 y1 y2 y3 y4 y5 y6 : Nat} {q1 q2 q3 q4 q5 q6 : String} {g1 g2 g3 g4 g5 g6 : Array Edge} {at_ : Array TypeId}
    (hk : KOK N lo t ((s, .int .i64 0) :: (bp, .int .i64 0) :: K)) (hf : (sf, Value.bool flex) ∈ K) (hFA : FieldAt P T' k off) (hU : ∃ i, P.info? U = some i ∧ i.size = 1) (he : Enters P F) (hR0 : ∀ O w b o, w.cell? ⟨b, o, none⟩ = some (.map none) → RT O w b o []) (hTg : TagsRd RT P F) (hD : Dims N nt lo t) (hd : t ≤ t0 ∧ t0 < nt ∧ t ≤ t1 ∧ t1 + 3 < nt ∧ bp < lo ∧ n ≤ off) :
    RdS RT P N nt gE E ver flex K lo t s bp rs ((Code.region r0 #[⟨some t0, .move (.tmp sf), y1, q1, g1, none⟩] false).seq (.cond (.tmp t0)
      (Code.region r1 #[⟨some t1, .move (.tmp s), y2, q2, g2, none⟩, ⟨some (t1 + 1), .call { callee := .value (.func F), args := #[.tmp bp], argTypes := at_ }, y3, q3, g3, none⟩, ⟨some (t1 + 2), .nilCheck (.tmp t1), y4, q4, g4, none⟩, ⟨some (t1 + 3), .fieldAddr T' (.tmp (t1 + 2)) k, y5, q5, g5, none⟩,
        ⟨none, .store U (.tmp (t1 + 3)) (.tmp (t1 + 1)), y6, q6, g6, none⟩] false) .skip)) n (.tags off) := by
  intro O rb b o T a w cs st Q hN hh hst hF hq hr
  obtain ⟨d1, d2, d3, d4, d5, d6⟩ := hd
  have x1 := hD.dOne; have x2 := hD.dLo; have x3 := hD.dT; have x4 := hD.dN
  have hc : cs[o + off]? = some (.map none) := hF
  have hlt : o + off < cs.length := (List.getElem?_eq_some_iff.1 hc).1
  refine wp_seq (reg_flag (x0 := nt) (lo := lo) hN (hh _ (List.mem_cons_of_mem _ (List.mem_cons_of_mem _ hf))) ⟨hD.dT, d1, d2, hD.dLo⟩ fun a1 hf1 hx => ?_)
  have hh1 := hh.frR (kokR hk) hD hf1
  have hN1 := hf1.size.trans hN
  cases flex
  · refine wp_cond_false hx (wp_skip (hq a1 w cs ?_ hf1 (Keeps.refl _ _) (SameOut.refl _ _ _) fun v r hv => ?_))
    · cases st <;> exact hst
    · cases st with
      | none => cases hv
      | some bs =>
        simp only [Option.bind_some, rd, rdTags, Bool.false_eq_true, if_false, Pr.pure, Option.some.injEq, Prod.mk.injEq] at hv
        obtain ⟨rfl, rfl⟩ := hv
        exact hR0 _ _ _ _ (hst.blk.cell_some hc)
  · refine wp_cond_true hx (wp_reg ?_)
    refine wl_move hh1.head ?_
    refine wl_call (R := fun e w' => ∃ m, e = .returned (.agg #[.map m]) ∧ Rdr O w' rb ((st.bind rdTagsRaw).map (·.2)) ∧ Keeps [rb] w w' ∧ ∀ l r, st.bind rdTagsRaw = some (l, r) → ∀ (w2 : World) (b o : Nat), Keeps O w' w2 → w2.cell? ⟨b, o, none⟩ = some (.map m) → RT O w2 b o (tagSort l)) he ?_ ?_
    · simp only [List.map_toArray, List.map_cons, List.map_nil, aget_eval]
      rw [aget_put_other _ _ _ bp (by omega), hh1.tail.head]
      exact hTg O rb w st hst.rbO hst.lt hst.rdr
    rintro en w2 ⟨m, rfl, hr2, hk2, hm⟩
    refine ⟨_, rfl, ?_⟩
    refine wl_nilCheck (ad := ⟨b, o, none⟩) (by rw [aget_put_other _ _ _ t1 (by omega)]; exact aget_put_same _ _ _ (by omega)) ?_
    refine wl_fieldAddr hFA (aget_put_same _ _ _ (by simp only [size_put]; omega)) ?_
    rw [Addr.add_lit]
    have hst2 := hst.call hr2 hk2
    have e0 : st.bind (rd ver true (.tags off)) = (st.bind rdTagsRaw).bind fun q => some (.tags (tagSort q.1), q.2) := by
      change st.bind (rdTags true) = _
      unfold rdTags
      simp only [if_true]
      exact bind_st st rdTagsRaw _
    refine wl_store (w' := w2.setCell ⟨b, o + off, none⟩ (.map m)) ?_ ?_
    · rw [aget_eval, aget_eval, aget_put_same _ _ _ (by simp only [size_put]; omega), aget_put_other _ _ _ (t1 + 1) (by omega), aget_put_other _ _ _ (t1 + 1) (by omega), aget_put_same _ _ _ (by simp only [size_put]; omega)]
      exact run_store_agg hU hst2.blk hlt rfl
    · have hkO : Keeps O w2 (w2.setCell ⟨b, o + off, none⟩ (.map m)) := (Keeps.refl O w2).setCell hst.bO _
      refine wpList_nil (hq _ (w2.setCell ⟨b, o + off, none⟩ (.map m)) (cs.set (o + off) (.map m)) ?_ (hf1.trans (((((Fr.refl N lo t nt a1).put _ _ (by omega)).put _ _ (by omega)).put _ _ (by omega)).put _ _ (by omega))) ((keeps_rb hk2).trans (keeps_b w2 _ _)) ((SameOut.set cs (o + off) (.map m)).mono (by omega) (by simp only [top]; omega)) fun v r hv => ?_)
      · rw [e0]
        have := hst2.store (o + off) (.map m)
        cases hx2 : st.bind rdTagsRaw with
        | none => rw [hx2] at this; exact this
        | some q => rw [hx2] at this; exact this
      · rw [e0] at hv
        cases hx2 : st.bind rdTagsRaw with
        | none => rw [hx2] at hv; cases hv
        | some q =>
          rw [hx2] at hv
          simp only [Option.bind_some, Option.some.injEq, Prod.mk.injEq] at hv
          obtain ⟨rfl, rfl⟩ := hv
          exact hm q.1 q.2 hx2 _ _ _ hkO ((hst2.blk.set (o + off) (.map m)).cell_some (by rw [List.getElem?_set_self hlt]))
end
end Go.Proofs.YtmpilpgabelmiaaGreatDoor
