/- The code that reads a part reads just what 'rd' says, and lays it in memory: one rule for each form of the generated code. -/
import Derived.Test.YtellhjpdpaeieaaDoorRw
namespace Go.Proofs.YtellhjpdpaeieaaDoor
open Go Go.RowKit
set_option linter.unusedVariables false

/-- A value of one cell. -/
def One (x : Value) : Prop := x.cells = #[x] ∧ x.oneCell' = true
theorem LV.one {O : List Nat} {w : World} {flex : Bool} {x : Value} {k : Leaf} {v : GV} (h : LV O w flex x k v) : One x := by
  cases k <;> cases v <;> simp only [LV] at h <;> try exact h.elim
  · obtain ⟨rfl, -⟩ := h; exact ⟨rfl, rfl⟩
  · obtain ⟨rfl, -⟩ := h; exact ⟨rfl, rfl⟩
  · obtain ⟨rfl, -⟩ := h; exact ⟨rfl, rfl⟩
  · subst h; exact ⟨rfl, rfl⟩
  · obtain ⟨rfl, -⟩ := h; exact ⟨rfl, rfl⟩
  · subst h; exact ⟨rfl, rfl⟩
  · obtain ⟨rfl, -⟩ := h; exact ⟨rfl, rfl⟩
  · obtain ⟨⟨p, q, rfl, -⟩, -⟩ := h; exact ⟨rfl, rfl⟩
  · subst h; exact ⟨rfl, rfl⟩
  · obtain ⟨⟨a, cap, rfl, -⟩, -⟩ := h; exact ⟨rfl, rfl⟩
  · obtain ⟨⟨p, q, rfl, -⟩, -⟩ := h; exact ⟨rfl, rfl⟩
  · subst h; exact ⟨rfl, rfl⟩
theorem run_store_blk {P : Program} {U : Nat} (hU : OneCell P U) {w : World} {b i T : Nat} {c : List Value} {x : Value} (h : Blk w b c T) (hi : i < c.length) (hx : One x) :
    (Instr.storeAt U (.pointer (some ⟨b, i, none⟩)) x).run P w = .ok () (w.setCell ⟨b, i, none⟩ x) := by
  obtain ⟨t, ht, hs⟩ := hU.2
  have h1 := h.cell_some (List.getElem?_eq_getElem hi)
  have h2 := h.frozen i
  have h3 := hx.2
  simp [Instr.storeAt, Instr.sureAddr, storeVar, sizeOf, typeInfo, ht, hs, hx.1, storeCells, Addr.add]
  rw [run_store _ _ _ _ _ h3, h1]
  simp [h2]

/-- Where a walk of readFrom stands: the reader in block rb, the part that is filled in block b; E is what the package's error holds. -/
structure RSt (gE : Nat) (E : Value) (O : List Nat) (w : World) (rb b : Nat) (cs : List Value) (T : Nat) (st : Option (List UInt8)) : Prop where
  rdr : Rdr O w rb st
  blk : Blk w b cs T
  rbO : rb ∈ O
  bO : b ∈ O
  ne : b ≠ rb
  lt : ∀ k, k ∈ O → k < w.heap.size
  glob : w.cell? ⟨gE, 0, none⟩ = some E
  gO : gE ∉ O
section
variable {RT : RTags} {P : Program} {N nt gE : Nat} {E : Value} {K : Slots} {lo t : Nat} {ver : Int} {flex : Bool} {O : List Nat} {w w' : World} {rb b T : Nat} {cs : List Value} {st st' : Option (List UInt8)}
theorem RSt.call (h : RSt gE E O w rb b cs T st) (hr : Rdr O w' rb st') (hk : Keeps [rb] w w') : RSt gE E O w' rb b cs T st' :=
  ⟨hr, h.blk.keeps hk (by simpa using h.ne), h.rbO, h.bO, h.ne, hlt_on h.lt hk, (World.cell?_of_block (hk.block gE (World.block_lt_of_cell? w _ h.glob) (by rintro hx; rw [List.mem_singleton] at hx; exact h.gO (hx ▸ h.rbO)))).trans h.glob, h.gO⟩
theorem RSt.store (h : RSt gE E O w rb b cs T st) (i : Nat) (x : Value) : RSt gE E O (w.setCell ⟨b, i, none⟩ x) rb b (cs.set i x) T st := by
  have hk : Keeps [b] w (w.setCell ⟨b, i, none⟩ x) := (Keeps.refl [b] w).setCell (List.mem_singleton.2 rfl) _
  refine ⟨h.rdr.other hk (by simpa using fun e => h.ne e.symm) (by simpa using h.bO), h.blk.set i x, h.rbO, h.bO, h.ne, hlt_on h.lt hk, ?_, h.gO⟩
  exact (World.cell?_of_block (hk.block gE (World.block_lt_of_cell? w _ h.glob) (by rintro hx; rw [List.mem_singleton] at hx; exact h.gO (hx ▸ h.bO)))).trans h.glob
theorem keeps_rb (hk : Keeps [rb] w w') : Keeps [rb, b] w w' := hk.mono fun k hk => by rw [List.mem_singleton] at hk; simp [hk]
theorem keeps_b (w : World) (i : Nat) (x : Value) : Keeps [rb, b] w (w.setCell ⟨b, i, none⟩ x) := (Keeps.refl [rb, b] w).setCell (p := ⟨b, i, none⟩) (by simp) _
theorem RSt.keepO (h : RSt gE E O w rb b cs T st) {w1 w2 : World} (hk : Keeps [rb, b] w1 w2) : Keeps O w1 w2 := hk.mono fun k hk => by
  simp only [List.mem_cons, List.not_mem_nil, or_false] at hk
  rcases hk with rfl | rfl
  · exact h.rbO
  · exact h.bO
theorem Holds.frR {a a' : Act} (h : Holds K a) (hk : KOK N lo t K) (hD : Dims N nt lo t) (hf : Fr N lo t nt a a') : Holds K a' := fun p hp => by
  have h1 := (hk p hp).2
  have h2 := hD.dLo
  have h3 := hD.dT
  have h4 := hD.dN
  exact (hf.same p.1 (by omega) h1).trans (h p hp)

/-- The code c reads by p, into the cells from i on, below j, of the part whose address lies in slot s; the reader's address lies in slot bp. Where too little is left it may end the call, with the error in slot rs. -/
def RdG (P : Program) (N nt gE : Nat) (E : Value) (K : Slots) (lo t s bp rs : Nat) (c : Code) (p : Pr GV) (Fs : List Value → Nat → Prop) (i j : Nat) (R : List Nat → World → Nat → Nat → GV → Prop) : Prop :=
  ∀ (O : List Nat) (rb b o T : Nat) (a : Act) (w : World) (cs : List Value) (st : Option (List UInt8)) (Q : Exit → Act → World → Prop),
    a.tmps.size = nt → Holds ((s, .pointer (some ⟨b, o, none⟩)) :: (bp, .pointer (some ⟨rb, 0, none⟩)) :: K) a → RSt gE E O w rb b cs T st → Fs cs o →
    (∀ a' w' cs', RSt gE E O w' rb b cs' T ((st.bind p).map (·.2)) → Fr N lo t nt a a' → Keeps [rb, b] w w' → SameOut cs cs' (o + i) (o + j) → (∀ v r, st.bind p = some (v, r) → R O w' b o v) → Q .normal a' w') →
    (∀ a' w', st.bind p = none → a'.tmps.size = nt → a'.defers = a.defers → aget a' rs = E → Keeps [rb, b] w w' → Q .ret a' w') → c.wp P Q a w
/-- A field at cell off. -/
def RdF (RT : RTags) (P : Program) (N nt gE : Nat) (E : Value) (ver : Int) (flex : Bool) (K : Slots) (lo t s bp rs : Nat) (c : Code) (off : Nat) (f : Sch) : Prop :=
  RdG P N nt gE E K lo t s bp rs c (rd ver flex f) (fun cs o => Fresh cs (o + off) f) off (off + top f) (fun O w b o v => Rep RT O w ver flex f b (o + off) v)
def rdV (ver : Int) (flex : Bool) (vlo : Int) (vhi : Option Int) (f : Sch) : Pr GV := if hasV vlo vhi ver then rd ver flex f else .pure .unit
/-- A field, where the version has it. -/
def RdFV (RT : RTags) (P : Program) (N nt gE : Nat) (E : Value) (ver : Int) (flex : Bool) (K : Slots) (lo t s bp rs : Nat) (c : Code) (off : Nat) (vlo : Int) (vhi : Option Int) (f : Sch) : Prop :=
  RdG P N nt gE E K lo t s bp rs c (rdV ver flex vlo vhi f) (fun cs o => Fresh cs (o + off) f) off (off + top f) (fun O w b o v => hasV vlo vhi ver = true → Rep RT O w ver flex f b (o + off) v)
/-- A part, from cell n on. -/
def RdS (RT : RTags) (P : Program) (N nt gE : Nat) (E : Value) (ver : Int) (flex : Bool) (K : Slots) (lo t s bp rs : Nat) (c : Code) (n : Nat) (f : Sch) : Prop :=
  RdG P N nt gE E K lo t s bp rs c (rd ver flex f) (fun cs o => Fresh cs o f) n (top f) (fun O w b o v => Rep RT O w ver flex f b o v)
theorem rd_cons (ver : Int) (flex : Bool) (off : Nat) (vlo : Int) (vhi : Option Int) (f rest : Sch) : rd ver flex (.cons off vlo vhi f rest) = (rdV ver flex vlo vhi f).bind fun v => (rd ver flex rest).bind fun vs => .pure (.cons v vs) := by
  conv => lhs; unfold rd
  unfold rdV
  split
  · rfl
  · rfl
theorem bind2 {p1 p2 : Pr GV} {f : GV → GV → GV} : st.bind (p1.bind fun v => p2.bind fun vs => .pure (f v vs)) = (st.bind p1).bind fun q => (p2 q.2).bind fun r => some (f q.1 r.1, r.2) := by
  rw [bind_st]
  congr 1
  funext q
  cases h : p2 q.2 with
  | none => rw [bind_none h]; rfl
  | some r => rw [bind_eq (r := r.2) (v := r.1) h]; rfl
theorem RdG.seq {s bp rs : Nat} {c1 c2 : Code} {p1 p2 : Pr GV} {f : GV → GV → GV} {Fs F1 F2 : List Value → Nat → Prop} {i1 j1 i2 j2 i j : Nat} {R R1 R2 : List Nat → World → Nat → Nat → GV → Prop}
    (hk : KOK N lo t ((s, .int .i64 0) :: (bp, .int .i64 0) :: K)) (hD : Dims N nt lo t) (h1 : RdG P N nt gE E K lo t s bp rs c1 p1 F1 i1 j1 R1) (h2 : RdG P N nt gE E K lo t s bp rs c2 p2 F2 i2 j2 R2)
    (hF1 : ∀ cs o, Fs cs o → F1 cs o) (hF2 : ∀ cs cs' o, Fs cs o → SameOut cs cs' (o + i1) (o + j1) → F2 cs' o)
    (hR1 : ∀ O w w' b o v, R1 O w b o v → Keeps O w w' → (∀ k, k < o + j1 → w'.cell? ⟨b, k, none⟩ = w.cell? ⟨b, k, none⟩) → R1 O w' b o v) (hR : ∀ O w b o v vs, R1 O w b o v → R2 O w b o vs → R O w b o (f v vs))
    (hij : i ≤ i1 ∧ i ≤ i2 ∧ j1 ≤ j ∧ j2 ≤ j ∧ j1 ≤ i2) : RdG P N nt gE E K lo t s bp rs (c1.seq c2) (p1.bind fun v => p2.bind fun vs => .pure (f v vs)) Fs i j R := by
  intro O rb b o T a w cs st Q hN hh hst hF hq hr
  have hk' : KOK N lo t ((s, .pointer (some ⟨b, o, none⟩)) :: (bp, .pointer (some ⟨rb, 0, none⟩)) :: K) := fun p hp => by
    simp only [List.mem_cons] at hp
    rcases hp with rfl | rfl | hp
    · exact hk (s, .int .i64 0) (by simp)
    · exact hk (bp, .int .i64 0) (by simp)
    · exact hk p (by simp [hp])
  refine wp_seq (h1 O rb b o T a w cs st _ hN hh hst (hF1 _ _ hF) ?_ ?_)
  · intro a1 w1 cs1 hst1 hf1 hk1 hs1 hv1
    refine h2 O rb b o T a1 w1 cs1 _ Q (hf1.size.trans hN) (hh.frR hk' hD hf1) hst1 (hF2 _ _ _ hF hs1) ?_ ?_
    · intro a2 w2 cs2 hst2 hf2 hk2 hs2 hv2
      refine hq a2 w2 cs2 ?_ (hf1.trans hf2) (hk1.trans hk2) (hs1.trans hs2 (by omega) (by omega)) ?_
      · have e : ((st.bind p1).map (·.2)).bind p2 = none ∨ True := .inr trivial
        rw [bind2]
        cases hx : st.bind p1 with
        | none => rw [hx] at hst2; exact hst2
        | some q =>
          rw [hx] at hst2
          change RSt gE E O w2 rb b cs2 T ((p2 q.2).map (·.2)) at hst2
          change RSt gE E O w2 rb b cs2 T (((p2 q.2).bind fun r => some (f q.1 r.1, r.2)).map (·.2))
          cases hy : p2 q.2 with
          | none => rw [hy] at hst2; exact hst2
          | some r => rw [hy] at hst2; exact hst2
      · intro v r hvr
        rw [bind2] at hvr
        cases hx : st.bind p1 with
        | none => rw [hx] at hvr; cases hvr
        | some q =>
          rw [hx] at hvr
          change ((p2 q.2).bind fun r => some (f q.1 r.1, r.2)) = _ at hvr
          cases hy : p2 q.2 with
          | none => rw [hy] at hvr; cases hvr
          | some r2 =>
            rw [hy] at hvr
            simp only [Option.bind_some, Option.some.injEq, Prod.mk.injEq] at hvr
            obtain ⟨rfl, rfl⟩ := hvr
            refine hR _ _ _ _ _ _ (hR1 _ _ _ _ _ _ (hv1 q.1 q.2 hx) (hst.keepO hk2) fun k hk => ?_) (hv2 r2.1 r2.2 (by rw [hx]; exact hy))
            exact hst1.blk.same hst2.blk hs2 k (by omega)
    · intro a2 w2 hn hs hd hE hk2
      refine hr a2 w2 ?_ hs (hd.trans hf1.defers) hE (hk1.trans hk2)
      rw [bind2]
      cases hx : st.bind p1 with
      | none => rfl
      | some q =>
        rw [hx] at hn
        change p2 q.2 = none at hn
        change ((p2 q.2).bind fun r => some (f q.1 r.1, r.2)) = none
        rw [hn]
        rfl
  · intro a1 w1 hn hs hd hE hk1
    refine hr a1 w1 ?_ hs hd hE hk1
    rw [bind2, hn]
    rfl

theorem kokR {s bp : Nat} {x y : Value} (hk : KOK N lo t ((s, .int .i64 0) :: (bp, .int .i64 0) :: K)) : KOK N lo t ((s, x) :: (bp, y) :: K) := fun p hp => by
  simp only [List.mem_cons] at hp
  rcases hp with rfl | rfl | hp
  · exact hk (s, .int .i64 0) (by simp)
  · exact hk (bp, .int .i64 0) (by simp)
  · exact hk p (by simp [hp])
theorem RdG.mono {s bp rs lo' t' : Nat} {c : Code} {p : Pr GV} {Fs : List Value → Nat → Prop} {i j : Nat} {R : List Nat → World → Nat → Nat → GV → Prop} (h : RdG P N nt gE E K lo' t' s bp rs c p Fs i j R) (h1 : lo ≤ lo') (h2 : t ≤ t') : RdG P N nt gE E K lo t s bp rs c p Fs i j R :=
  fun O rb b o T a w cs st Q hN hh hst hF hq hr => h O rb b o T a w cs st Q hN hh hst hF (fun a' w' cs' g1 g2 => hq a' w' cs' g1 (g2.mono h1 h2)) hr
theorem rep_moved (hRT : RTKeep RT) {s : Sch} {off : Nat} : ∀ (O : List Nat) (w w' : World) (b o : Nat) (v : GV), Rep RT O w ver flex s b (o + off) v → Keeps O w w' → (∀ k, k < o + (off + top s) → w'.cell? ⟨b, k, none⟩ = w.cell? ⟨b, k, none⟩) → Rep RT O w' ver flex s b (o + off) v :=
  fun O w w' b o v h hk hc => h.move hRT hk fun i hi => hc _ (by omega)
theorem rdS_cons {s bp rs off n : Nat} {vlo : Int} {vhi : Option Int} {c1 c2 : Code} {f rest : Sch} (hRT : RTKeep RT) (hk : KOK N lo t ((s, .int .i64 0) :: (bp, .int .i64 0) :: K)) (hD : Dims N nt lo t) (ho : ord n (.cons off vlo vhi f rest) = true)
    (h1 : RdFV RT P N nt gE E ver flex K lo t s bp rs c1 off vlo vhi f) (h2 : RdS RT P N nt gE E ver flex K lo t s bp rs c2 (off + top f) rest) : RdS RT P N nt gE E ver flex K lo t s bp rs (c1.seq c2) n (.cons off vlo vhi f rest) := by
  simp only [ord, Bool.and_eq_true, decide_eq_true_eq] at ho
  unfold RdS
  rw [rd_cons]
  refine RdG.seq hk hD h1 h2 (fun cs o h => h.1) (fun cs cs' o h hs => h.2.behind hs ho.2 (by omega)) (fun O w w' b o v h hk hc hv => rep_moved hRT O w w' b o v (h hv) hk hc) (fun O w b o v vs h1 h2 => ⟨h1, h2⟩) ?_
  simp only [top]
  omega
theorem RdG.skip {s bp rs : Nat} {Fs : List Value → Nat → Prop} {n : Nat} {v : GV} {R : List Nat → World → Nat → Nat → GV → Prop} (hR : ∀ O w b o, R O w b o v) : RdG P N nt gE E K lo t s bp rs .skip (.pure v) Fs n n R := by
  intro O rb b o T a w cs st Q hN hh hst hF hq hr
  refine wp_skip (hq a w cs ?_ (Fr.refl ..) (Keeps.refl _ _) (SameOut.refl _ _ _) fun v' r h => ?_)
  · cases st <;> exact hst
  · cases st with
    | none => cases h
    | some bs =>
      simp only [Option.bind_some, Pr.pure, Option.some.injEq, Prod.mk.injEq] at h
      obtain ⟨rfl, rfl⟩ := h
      exact hR _ _ _ _
/-- A last field with nothing behind it. -/
theorem rdS_last {s bp rs off n : Nat} {vlo : Int} {vhi : Option Int} {c1 : Code} {f : Sch} (ho : n ≤ off) (h1 : RdFV RT P N nt gE E ver flex K lo t s bp rs c1 off vlo vhi f) : RdS RT P N nt gE E ver flex K lo t s bp rs c1 n (.cons off vlo vhi f .done) := by
  intro O rb b o T a w cs st Q hN hh hst hF hq hr
  have e : st.bind (rd ver flex (.cons off vlo vhi f .done)) = (st.bind (rdV ver flex vlo vhi f)).bind fun q => some (.cons q.1 .unit, q.2) := by
    rw [rd_cons, bind2]
    rfl
  refine h1 O rb b o T a w cs st Q hN hh hst hF.1 (fun a' w' cs' g1 g2 g3 g4 g5 => hq a' w' cs' ?_ g2 g3 ?_ ?_) (fun a' w' hn => hr a' w' ?_)
  · rw [e]
    cases hx : st.bind (rdV ver flex vlo vhi f) with
    | none => rw [hx] at g1; exact g1
    | some q => rw [hx] at g1; exact g1
  · simp only [top]
    exact g4.mono (by omega) (by omega)
  · intro v r hv
    rw [e] at hv
    cases hx : st.bind (rdV ver flex vlo vhi f) with
    | none => rw [hx] at hv; cases hv
    | some q =>
      rw [hx] at hv
      simp only [Option.bind_some, Option.some.injEq, Prod.mk.injEq] at hv
      obtain ⟨rfl, rfl⟩ := hv
      exact ⟨g5 q.1 q.2 hx, trivial⟩
  · rw [e, hn]
    rfl
theorem rdFV_always {s bp rs off : Nat} {vlo : Int} {vhi : Option Int} {c : Code} {f : Sch} (hv : hasV vlo vhi ver = true) (h : RdF RT P N nt gE E ver flex K lo t s bp rs c off f) : RdFV RT P N nt gE E ver flex K lo t s bp rs c off vlo vhi f := by
  unfold RdFV rdV
  rw [if_pos hv]
  exact fun O rb b o T a w cs st Q hN hh hst hF hq hr => h O rb b o T a w cs st Q hN hh hst hF (fun a' w' cs' g1 g2 g3 g4 g5 => hq a' w' cs' g1 g2 g3 g4 fun v r h _ => g5 v r h) hr
/-- Behind a test whose outcome lies in slot x. -/
theorem rdFV_if {s bp rs off x : Nat} {vlo : Int} {vhi : Option Int} {c : Code} {f : Sch} (h : RdF RT P N nt gE E ver flex K lo t s bp rs c off f) :
    ∀ (O : List Nat) (rb b o T : Nat) (a : Act) (w : World) (cs : List Value) (st : Option (List UInt8)) (Q : Exit → Act → World → Prop), aget a x = .bool (hasV vlo vhi ver) →
    a.tmps.size = nt → Holds ((s, .pointer (some ⟨b, o, none⟩)) :: (bp, .pointer (some ⟨rb, 0, none⟩)) :: K) a → RSt gE E O w rb b cs T st → Fresh cs (o + off) f →
    (∀ a' w' cs', RSt gE E O w' rb b cs' T ((st.bind (rdV ver flex vlo vhi f)).map (·.2)) → Fr N lo t nt a a' → Keeps [rb, b] w w' → SameOut cs cs' (o + off) (o + (off + top f)) → (∀ v r, st.bind (rdV ver flex vlo vhi f) = some (v, r) → hasV vlo vhi ver = true → Rep RT O w' ver flex f b (o + off) v) → Q .normal a' w') →
    (∀ a' w', st.bind (rdV ver flex vlo vhi f) = none → a'.tmps.size = nt → a'.defers = a.defers → aget a' rs = E → Keeps [rb, b] w w' → Q .ret a' w') → (Code.cond (.tmp x) c .skip).wp P Q a w := by
  intro O rb b o T a w cs st Q hx hN hh hst hF hq hr
  cases hv : hasV vlo vhi ver
  · rw [hv] at hx
    refine wp_cond_false hx (wp_skip (hq a w cs ?_ (Fr.refl ..) (Keeps.refl _ _) (SameOut.refl _ _ _) fun v' r _ h => by rw [hv] at h; cases h))
    unfold rdV
    rw [if_neg (by rw [hv]; exact fun h => by cases h)]
    cases st <;> exact hst
  · rw [hv] at hx
    exact wp_cond_true hx (rdFV_always (vlo := vlo) (vhi := vhi) hv h O rb b o T a w cs st Q hN hh hst hF hq hr)
theorem rdFV_ge {s bp rs off sv t1 r ty1 ty2 T' U : Nat} {p1 p2 : String} {e1 e2 : Array Edge} {n : Int} {c : Code} {f : Sch} (hk : KOK N lo t ((s, .int .i64 0) :: (bp, .int .i64 0) :: K)) (hsv : (sv, Value.int .i16 ver) ∈ K) (hD : Dims N nt lo t) (hd : t ≤ t1 ∧ t1 + 1 < nt)
    (h : RdF RT P N nt gE E ver flex K lo t s bp rs c off f) :
    RdFV RT P N nt gE E ver flex K lo t s bp rs ((Code.region r #[⟨some t1, .move (.tmp sv), ty1, p1, e1, none⟩, ⟨some (t1 + 1), .binOp .geq T' (.tmp t1) (.const (.int .i16 n)) U, ty2, p2, e2, none⟩] false).seq (.cond (.tmp (t1 + 1)) c .skip)) off n none f := by
  intro O rb b o T a w cs st Q hN hh hst hF hq hr
  refine wp_seq (reg_cmp (x0 := nt) (lo := lo) (b := hasV n none ver) hN (hh _ (List.mem_cons_of_mem _ (List.mem_cons_of_mem _ hsv))) ⟨hD.dT, hd.1, hd.2, hD.dLo⟩ (fun w => by rw [run_cmp_i16]; simp [hasV]) fun a' hfr hx => ?_)
  exact rdFV_if h O rb b o T a' w cs st Q hx (hfr.size.trans hN) (hh.frR (kokR hk) hD hfr) hst hF (fun a2 w2 cs2 g1 g2 => hq a2 w2 cs2 g1 (hfr.trans g2)) (fun a2 w2 g1 g2 g3 => hr a2 w2 g1 g2 (g3.trans hfr.defers))
theorem rdFV_range {s bp rs off sv t1 r ty1 ty2 ty3 ty4 ty5 ty6 T' U T'' U' : Nat} {p1 p2 p3 p4 p5 p6 : String} {e1 e2 e3 e4 e5 e6 : Array Edge} {n m : Int} {c : Code} {f : Sch} (hk : KOK N lo t ((s, .int .i64 0) :: (bp, .int .i64 0) :: K)) (hsv : (sv, Value.int .i16 ver) ∈ K) (hsl : sv < t1) (hD : Dims N nt lo t) (hd : t ≤ t1 ∧ t1 + 5 < nt)
    (h : RdF RT P N nt gE E ver flex K lo t s bp rs c off f) :
    RdFV RT P N nt gE E ver flex K lo t s bp rs ((Code.region r #[⟨some t1, .move (.tmp sv), ty1, p1, e1, none⟩, ⟨some (t1 + 1), .binOp .geq T' (.tmp t1) (.const (.int .i16 n)) U, ty2, p2, e2, none⟩, ⟨some (t1 + 2), .move (.tmp (t1 + 1)), ty3, p3, e3, none⟩,
      ⟨some (t1 + 3), .move (.tmp sv), ty4, p4, e4, some (2, true)⟩, ⟨some (t1 + 4), .binOp .leq T'' (.tmp (t1 + 3)) (.const (.int .i16 m)) U', ty5, p5, e5, some (2, true)⟩,
      ⟨some (t1 + 5), .pick (.tmp (t1 + 2)) (.tmp (t1 + 4)) (.const (.bool false)), ty6, p6, e6, none⟩] false).seq (.cond (.tmp (t1 + 5)) c .skip)) off n (some m) f := by
  intro O rb b o T a w cs st Q hN hh hst hF hq hr
  refine wp_seq (reg_range (x0 := nt) (lo := lo) hN (hh _ (List.mem_cons_of_mem _ (List.mem_cons_of_mem _ hsv))) ⟨hD.dT, hd.1, hd.2, hD.dLo, by omega, by omega, by omega⟩ fun a' hfr hx => ?_)
  exact rdFV_if h O rb b o T a' w cs st Q hx (hfr.size.trans hN) (hh.frR (kokR hk) hD hfr) hst hF (fun a2 w2 cs2 g1 g2 => hq a2 w2 cs2 g1 (hfr.trans g2)) (fun a2 w2 g1 g2 g3 => hr a2 w2 g1 g2 (g3.trans hfr.defers))

/-- The code c reads a value of a kind into slot u. -/
def RdL (P : Program) (N nt gE : Nat) (E : Value) (ver : Int) (flex : Bool) (K : Slots) (lo t bp : Nat) (c : Code) (u : Nat) (lf : Leaf) : Prop :=
  ∀ (O : List Nat) (rb b T : Nat) (a : Act) (w : World) (cs : List Value) (st : Option (List UInt8)) (Q : Exit → Act → World → Prop), a.tmps.size = nt → Holds ((bp, .pointer (some ⟨rb, 0, none⟩)) :: K) a → RSt gE E O w rb b cs T st →
    (∀ a' w' x, aget a' u = x → One x → RSt gE E O w' rb b cs T ((st.bind (rdLeaf ver flex lf)).map (·.2)) → Fr N lo t nt a a' → Keeps [rb] w w' → (∀ v r, st.bind (rdLeaf ver flex lf) = some (v, r) → LV O w' flex x lf v) → Q .normal a' w') → c.wp P Q a w
/-- Function F reads a kind. -/
def LeafRd (P : Program) (ver : Int) (flex : Bool) (F : Nat) (lf : Leaf) : Prop := RdC P F (rdLeaf ver flex lf) (fun O w v g => LV O w flex v lf g) One
theorem rdL_call {bp u t1 F r ty1 ty2 : Nat} {p1 p2 : String} {e1 e2 : Array Edge} {at_ : Array TypeId} {lf : Leaf} (he : Enters P F) (hC : LeafRd P ver flex F lf) (hD : Dims N nt lo t) (hd : t ≤ t1 ∧ t1 < nt ∧ lo ≤ u ∧ u < N) :
    RdL P N nt gE E ver flex K lo t bp (Code.region r #[⟨some t1, .call { callee := .value (.func F), args := #[.tmp bp], argTypes := at_ }, ty1, p1, e1, none⟩, ⟨some u, .assign (.tmp t1), ty2, p2, e2, none⟩] false) u lf := by
  intro O rb b T a w cs st Q hN hh hst hq
  obtain ⟨d1, d2, d3, d4⟩ := hd
  have g2 := hD.dLo; have g3 := hD.dT; have g4 := hD.dN
  refine wp_reg ?_
  refine wl_call (R := RdPost (rdLeaf ver flex lf) (fun O w v g => LV O w flex v lf g) One O rb w st) he ?_ ?_
  · simp only [List.map_toArray, List.map_cons, List.map_nil, aget_eval]
    rw [hh.head]
    exact hC O rb w st hst.rbO hst.lt hst.rdr
  rintro e w' ⟨v, rfl, hr, hk, hbad, hgood⟩
  refine ⟨v, rfl, ?_⟩
  refine wl_assign (aget_put_same _ _ _ (by rw [hN]; omega)) ?_
  refine wpList_nil (hq _ w' v (aget_put_same _ _ _ (by simp only [size_put]; omega)) ?_ (hst.call hr hk) (((Fr.refl N lo t nt a).put _ _ (by omega)).put _ _ (by omega)) hk hgood)
  cases hx : st.bind (rdLeaf ver flex lf) with
  | none => exact hbad hx
  | some q => exact (hgood q.1 q.2 hx).one
theorem rdL_flag {bp u sf t1 r ty1 : Nat} {p1 : String} {e1 : Array Edge} {c1 c2 : Code} {lf : Leaf} {fl : Bool} (hk : KOK N lo t ((bp, .int .i64 0) :: K)) (hf : (sf, Value.bool fl) ∈ K) (hD : Dims N nt lo t) (hd : t ≤ t1 ∧ t1 < nt)
    (h1 : fl = true → RdL P N nt gE E ver flex K lo t bp c1 u lf) (h2 : fl = false → RdL P N nt gE E ver flex K lo t bp c2 u lf) :
    RdL P N nt gE E ver flex K lo t bp ((Code.region r #[⟨some t1, .move (.tmp sf), ty1, p1, e1, none⟩] false).seq (.cond (.tmp t1) c1 c2)) u lf := by
  intro O rb b T a w cs st Q hN hh hst hq
  have hk' : KOK N lo t ((bp, .pointer (some ⟨rb, 0, none⟩)) :: K) := fun p hp => by
    simp only [List.mem_cons] at hp
    rcases hp with rfl | hp
    · exact hk (bp, .int .i64 0) (by simp)
    · exact hk p (by simp [hp])
  refine wp_seq (reg_flag (x0 := nt) (lo := lo) hN (hh _ (List.mem_cons_of_mem _ hf)) ⟨hD.dT, hd.1, hd.2, hD.dLo⟩ fun a' hfr hx => ?_)
  cases fl
  · exact wp_cond_false hx (h2 rfl O rb b T a' w cs st Q (hfr.size.trans hN) (hh.frR hk' hD hfr) hst fun a2 w2 x g1 g2 g3 g4 => hq a2 w2 x g1 g2 g3 (hfr.trans g4))
  · exact wp_cond_true hx (h1 rfl O rb b T a' w cs st Q (hfr.size.trans hN) (hh.frR hk' hD hfr) hst fun a2 w2 x g1 g2 g3 g4 => hq a2 w2 x g1 g2 g3 (hfr.trans g4))

/-- 's.F = v'. -/
theorem reg_store {s v t1 T' k U off r ty1 ty2 ty3 ty4 ty5 : Nat} {p1 p2 p3 p4 p5 : String} {e1 e2 e3 e4 e5 : Array Edge} {a : Act} {o : Nat} {x : Value} {Q : Exit → Act → World → Prop}
    (hT : FieldAt P T' k off) (hU : OneCell P U) (hN : a.tmps.size = nt) (hs : aget a s = .pointer (some ⟨b, o, none⟩)) (hv : aget a v = x) (hx : One x) (hb : Blk w b cs T) (hlt : o + off < cs.length) (hD : Dims N nt lo t) (hd : t ≤ t1 ∧ t1 + 3 < nt ∧ v ≠ t1)
    (h : ∀ a', Fr N lo t nt a a' → Q .normal a' (w.setCell ⟨b, o + off, none⟩ x)) :
    (Code.region r #[⟨some t1, .move (.tmp s), ty1, p1, e1, none⟩, ⟨some (t1 + 1), .move (.tmp v), ty2, p2, e2, none⟩, ⟨some (t1 + 2), .nilCheck (.tmp t1), ty3, p3, e3, none⟩, ⟨some (t1 + 3), .fieldAddr T' (.tmp (t1 + 2)) k, ty4, p4, e4, none⟩,
      ⟨none, .store U (.tmp (t1 + 3)) (.tmp (t1 + 1)), ty5, p5, e5, none⟩] false).wp P Q a w := by
  obtain ⟨d1, d2, d3⟩ := hd
  have g2 := hD.dLo; have g3 := hD.dT; have g4 := hD.dN
  refine wp_reg ?_
  refine wl_move hs ?_
  refine wl_move (v := x) (by rw [aget_put_other _ _ _ _ (by omega)]; exact hv) ?_
  refine wl_nilCheck (ad := ⟨b, o, none⟩) (by rw [aget_put_other _ _ _ _ (by omega)]; exact aget_put_same _ _ _ (by rw [hN]; omega)) ?_
  refine wl_fieldAddr hT (aget_put_same _ _ _ (by simp only [size_put, hN]; omega)) ?_
  rw [Addr.add_lit]
  refine wl_store (w' := w.setCell ⟨b, o + off, none⟩ x) ?_ ?_
  · rw [aget_eval, aget_eval, aget_put_same _ _ _ (by simp only [size_put, hN]; omega), aget_put_other _ _ _ _ (by omega), aget_put_other _ _ _ _ (by omega), aget_put_same _ _ _ (by simp only [size_put, hN]; omega)]
    exact run_store_blk hU hb hlt hx
  · exact wpList_nil (h _ (((((Fr.refl N lo t nt a).put _ _ (by omega)).put _ _ (by omega)).put _ _ (by omega)).put _ _ (by omega)))
/-- '{ v := b.F(); s.F = v }'. -/
theorem rdF_leaf {s bp rs v t1 t2 T' k U off r ty1 ty2 ty3 ty4 ty5 : Nat} {p1 p2 p3 p4 p5 : String} {e1 e2 e3 e4 e5 : Array Edge} {c : Code} {lf : Leaf}
    (hk : KOK N lo t ((s, .int .i64 0) :: (bp, .int .i64 0) :: K)) (hT : FieldAt P T' k off) (hU : OneCell P U) (hD : Dims N nt lo t) (hd : t ≤ t1 ∧ t1 + 3 < nt ∧ v ≠ t1) (hlf : lf ≠ .uuid) (h : RdL P N nt gE E ver flex K lo t bp c v lf) :
    RdF RT P N nt gE E ver flex K lo t s bp rs (c.seq (Code.region r #[⟨some t1, .move (.tmp s), ty1, p1, e1, none⟩, ⟨some (t1 + 1), .move (.tmp v), ty2, p2, e2, none⟩, ⟨some (t1 + 2), .nilCheck (.tmp t1), ty3, p3, e3, none⟩, ⟨some (t1 + 3), .fieldAddr T' (.tmp (t1 + 2)) k, ty4, p4, e4, none⟩,
      ⟨none, .store U (.tmp (t1 + 3)) (.tmp (t1 + 1)), ty5, p5, e5, none⟩] false)) off (.leaf lf) := by
  intro O rb b o T a w cs st Q hN hh hst hF hq hr
  have hl : o + off < cs.length := by cases lf <;> first | exact hF | exact absurd rfl hlf
  have ht : top (.leaf lf) = 1 := by cases lf <;> first | rfl | exact absurd rfl hlf
  refine wp_seq (h O rb b T a w cs st _ hN hh.tail hst fun a1 w1 x hx hone hst1 hf1 hk1 hlv => ?_)
  have hh1 := hh.frR (kokR hk) hD hf1
  refine reg_store hT hU (hf1.size.trans hN) hh1.head hx hone hst1.blk hl hD hd fun a2 hf2 => ?_
  refine hq a2 _ _ (hst1.store (o + off) x) (hf1.trans hf2) ((keeps_rb hk1).trans (keeps_b w1 _ _)) ?_ ?_
  · rw [ht]
    exact SameOut.set cs (o + off) x
  · intro v r hv
    have hb : Keeps O w1 (w1.setCell ⟨b, o + off, none⟩ x) := (Keeps.refl O w1).setCell hst.bO _
    exact ((hlv v r hv).keeps hb).rep ((hst1.blk.set (o + off) x).cell_some (by rw [List.getElem?_set_self hl]))
/-- 'var v T' ahead of it. -/
theorem rdL_var {bp u r ty1 : Nat} {p1 : String} {e1 : Array Edge} {c : Code} {lf : Leaf} {z : Value} (hk : KOK N lo t ((bp, .int .i64 0) :: K)) (hD : Dims N nt lo t) (hd : lo ≤ u ∧ u < N) (h : RdL P N nt gE E ver flex K lo t bp c u lf) :
    ∀ {c2 : Code} {s rs off : Nat}, RdF RT P N nt gE E ver flex K lo t s bp rs (c.seq c2) off (.leaf lf) → KOK N lo t ((s, .int .i64 0) :: (bp, .int .i64 0) :: K) → RdF RT P N nt gE E ver flex K lo t s bp rs ((Code.region r #[⟨some u, .assign (.const z), ty1, p1, e1, none⟩] false).seq (c.seq c2)) off (.leaf lf) := by
  intro c2 s rs off hF hk2 O rb b o T a w cs st Q hN hh hst hFr hq hr
  refine wp_seq (wp_reg (wl_assign_c (wpList_nil ?_)))
  have hf : Fr N lo t nt a (a.put (some u) z) := (Fr.refl N lo t nt a).put _ _ (by omega)
  exact hF O rb b o T _ w cs st Q (hf.size.trans hN) (hh.frR (kokR hk2) hD hf) hst hFr (fun a2 w2 cs2 g1 g2 => hq a2 w2 cs2 g1 (hf.trans g2)) (fun a2 w2 g1 g2 g3 => hr a2 w2 g1 g2 (g3.trans hf.defers))
end
end Go.Proofs.YtellhjpdpaeieaaDoor
