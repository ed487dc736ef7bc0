/- The code that writes a part appends just what 'ap' says: one rule for each form of the generated code. Any program. -/
import Derived.Test.YtkhpglongkhbjaaReg
import Derived.Test.YtkhpglongkhbjaaKa
import Derived.Test.YtkhpglongkhbjaaRep
namespace Go.Proofs.Ytkhpglongkhbjaa
open Go Go.RowKit
set_option linter.unusedVariables false

/-- Where a walk of AppendTo stands: slot 1 holds the bytes bs, of the call's own; below the heap as the call began nothing has turned. -/
structure St (nt : Nat) (w0 : World) (a : Act) (w : World) (bs : List UInt8) : Prop where
  size : a.tmps.size = nt
  own : Own w0.heap.size w (aget a 1) bs
  below : Below w0.heap.size w0 w
theorem St.cell {nt : Nat} {w0 : World} {a : Act} {w : World} {bs : List UInt8} (h : St nt w0 a w bs) {ad : Addr} {x : Value} (hc : w0.cell? ad = some x) : w.cell? ad = some x :=
  (h.below.cell (World.block_lt_of_cell? w0 ad hc)).trans hc

abbrev Slots := List (Nat × Value)
def Holds (K : Slots) (a : Act) : Prop := ∀ p ∈ K, aget a p.1 = p.2
/-- No slot of K is written. -/
def KOK (N lo t : Nat) (K : Slots) : Prop := ∀ p ∈ K, p.1 ≠ 1 ∧ (p.1 < lo ∨ (N ≤ p.1 ∧ p.1 < t))
theorem Holds.fr {N lo t : Nat} {K : Slots} {a a' : Act} (h : Holds K a) (hk : KOK N lo t K) (hf : Fr N lo t 1 a a') : Holds K a' :=
  fun p hp => (hf.same p.1 (hk p hp).1 (hk p hp).2).trans (h p hp)
theorem Holds.tail {p : Nat × Value} {K : Slots} {a : Act} (h : Holds (p :: K) a) : Holds K a := fun q hq => h q (List.mem_cons_of_mem _ hq)
theorem Holds.head {u : Nat} {x : Value} {K : Slots} {a : Act} (h : Holds ((u, x) :: K) a) : aget a u = x := h (u, x) (List.mem_cons_self ..)
theorem Holds.cons {u : Nat} {x : Value} {K : Slots} {a : Act} (h : Holds K a) (hx : aget a u = x) : Holds ((u, x) :: K) a := by
  intro p hp
  rcases List.mem_cons.1 hp with rfl | hp
  · exact hx
  · exact h p hp
theorem KOK.tail {N lo t : Nat} {p : Nat × Value} {K : Slots} (h : KOK N lo t (p :: K)) : KOK N lo t K := fun q hq => h q (List.mem_cons_of_mem _ hq)
theorem KOK.cons {N lo t u : Nat} {x : Value} {K : Slots} (h : KOK N lo t K) (hu : u ≠ 1 ∧ (u < lo ∨ (N ≤ u ∧ u < t))) : KOK N lo t ((u, x) :: K) := by
  intro p hp
  rcases List.mem_cons.1 hp with rfl | hp
  · exact hu
  · exact h p hp

/-- The measures of a piece of code: slot 1 is below all that it writes. -/
structure Dims (N nt lo t : Nat) : Prop where
  dOne : 1 < lo
  dLo : lo ≤ N
  dT : N ≤ t
  dN : t ≤ nt
theorem Fr.to1 {N nt lo t : Nat} {a a' : Act} (h : Fr N lo t nt a a') (hd : Dims N nt lo t) : Fr N lo t 1 a a' :=
  ⟨h.size, h.defers, fun i _ hi => h.same i (by have := hd.dLo; have := hd.dT; have := hd.dN; omega) hi⟩
theorem St.fr {N nt lo t : Nat} {w0 : World} {a a' : Act} {w : World} {bs : List UInt8} (h : St nt w0 a w bs) (hf : Fr N lo t nt a a') (hd : Dims N nt lo t) : St nt w0 a' w bs := by
  refine ⟨hf.size.trans h.size, ?_, h.below⟩
  rw [hf.same 1 (by have := hd.dOne; have := hd.dLo; have := hd.dT; have := hd.dN; omega) (.inl hd.dOne)]
  exact h.own

/-- The code c appends new. -/
def App (P : Program) (N nt : Nat) (w0 : World) (K : Slots) (lo t : Nat) (c : Code) (new : List UInt8) : Prop :=
  ∀ (a : Act) (w : World) (bs : List UInt8) (Q : Exit → Act → World → Prop), St nt w0 a w bs → Holds K a → bs.length + new.length ≤ lim →
    (∀ a' w', St nt w0 a' w' (bs ++ new) → Fr N lo t 1 a a' → Q .normal a' w') → c.wp P Q a w

section
variable {RT : RTags} {P : Program} {N nt : Nat} {w0 : World} {K : Slots} {lo t : Nat}

theorem App.seq {c1 c2 : Code} {n1 n2 : List UInt8} (hk : KOK N lo t K) (h1 : App P N nt w0 K lo t c1 n1) (h2 : App P N nt w0 K lo t c2 n2) : App P N nt w0 K lo t (c1.seq c2) (n1 ++ n2) := by
  intro a w bs Q hst hh hl hq
  simp only [List.length_append] at hl
  refine wp_seq (h1 a w bs _ hst hh (by omega) fun a1 w1 hst1 hf1 => ?_)
  refine h2 a1 w1 _ _ hst1 (hh.fr hk hf1) (by simp only [List.length_append]; omega) fun a2 w2 hst2 hf2 => ?_
  rw [List.append_assoc] at hst2
  exact hq a2 w2 hst2 (hf1.trans hf2)
theorem App.mono {c : Code} {n : List UInt8} {K' : Slots} {lo' t' : Nat} (h : App P N nt w0 K' lo' t' c n) (hk : ∀ p, p ∈ K' → p ∈ K) (h1 : lo ≤ lo') (h2 : t ≤ t') : App P N nt w0 K lo t c n :=
  fun a w bs Q hst hh hl hq => h a w bs Q hst (fun p hp => hh p (hk p hp)) hl fun a' w' hst' hf => hq a' w' hst' (hf.mono h1 h2)
theorem App.skip : App P N nt w0 K lo t .skip [] :=
  fun a w bs Q hst _ _ hq => wp_skip (hq a w (by simpa using hst) (Fr.refl ..))
theorem App.of_eq {c : Code} {n n' : List UInt8} (h : App P N nt w0 K lo t c n) (e : n = n') : App P N nt w0 K lo t c n' := e ▸ h

/-- Function F, handed x behind the bytes, appends new, while below w0's heap nothing turns. -/
def AppAt (P : Program) (F : Nat) (x : Value) (new : List UInt8) (w0 : World) : Prop :=
  ∀ (w : World) (v : Value) (bs : List UInt8), Below w0.heap.size w0 w → Own w0.heap.size w v bs → bs.length + new.length ≤ lim → Calls P F #[v, x] w (Appended w0.heap.size w (bs ++ new))
theorem AppC.at {F : Nat} {x : Value} {new : List UInt8} (h : AppC P F x new) : AppAt P F x new w0 :=
  fun w v bs hb ho hl => h w0.heap.size w v bs ho hb.size hl

/-- 'dst = F(dst, v)'. -/
theorem app1 {u t1 F r ty1 ty2 ty3 ty4 : Nat} {p1 p2 p3 p4 : String} {e1 e2 e3 e4 : Array Edge} {at_ : Array TypeId} {x : Value} {new : List UInt8}
    (he : Enters P F) (hC : AppAt P F x new w0) (hD : Dims N nt lo t) (hd : t ≤ t1 ∧ t1 + 2 < nt ∧ u ≠ t1) :
    App P N nt w0 ((u, x) :: K) lo t (Code.region r #[⟨some t1, .move (.tmp 1), ty1, p1, e1, none⟩, ⟨some (t1 + 1), .move (.tmp u), ty2, p2, e2, none⟩,
      ⟨some (t1 + 2), .call { callee := .value (.func F), args := #[.tmp t1, .tmp (t1 + 1)], argTypes := at_ }, ty3, p3, e3, none⟩, ⟨some 1, .assign (.tmp (t1 + 2)), ty4, p4, e4, none⟩] false) new := by
  intro a w bs Q hst hh hl hq
  obtain ⟨g1, g2, g3, g4⟩ := hD
  obtain ⟨h1, h2, h3⟩ := hd
  have hN := hst.size
  refine wp_reg ?_
  refine wl_move rfl ?_
  refine wl_move (v := x) (by rw [aget_put_other _ _ _ _ (by omega)]; exact hh.head) ?_
  refine wl_call (R := Appended w0.heap.size w (bs ++ new)) he ?_ ?_
  · simp only [List.map_toArray, List.map_cons, List.map_nil, aget_eval]
    rw [aget_put_other _ _ _ _ (by omega), aget_put_same _ _ _ (by (first | rw [hN] | simp only [size_put, hN]); omega), aget_put_same _ _ _ (by (first | rw [hN] | simp only [size_put, hN]); omega)]
    exact hC w _ bs hst.below hst.own hl
  · rintro e w' ⟨v', rfl, hown, hbel⟩
    refine ⟨v', rfl, ?_⟩
    refine wl_assign (aget_put_same _ _ _ (by (first | rw [hN] | simp only [size_put, hN]); omega)) ?_
    refine wpList_nil (hq _ _ ⟨by simp only [size_put, hN], ?_, hst.below.trans hbel⟩ (((((Fr.refl N lo t 1 a).put _ _ (by omega)).put _ _ (by omega)).put _ _ (by omega)).put _ _ (by omega)))
    rw [aget_put_same _ _ _ (by (first | rw [hN] | simp only [size_put, hN]); omega)]
    exact hown

/-- A test of a flag, two ways. -/
theorem app_flag {sf t1 r ty1 : Nat} {p1 : String} {e1 : Array Edge} {f : Bool} {c1 c2 : Code} {new : List UInt8} (hk : KOK N lo t K) (hf : (sf, Value.bool f) ∈ K) (hD : Dims N nt lo t) (hd : t ≤ t1 ∧ t1 < nt)
    (h1 : f = true → App P N nt w0 K lo t c1 new) (h2 : f = false → App P N nt w0 K lo t c2 new) :
    App P N nt w0 K lo t ((Code.region r #[⟨some t1, .move (.tmp sf), ty1, p1, e1, none⟩] false).seq (.cond (.tmp t1) c1 c2)) new := by
  intro a w bs Q hst hh hl hq
  refine wp_seq (reg_flag (x0 := nt) (lo := lo) hst.size (hh _ hf) ⟨hD.dT, hd.1, hd.2, hD.dLo⟩ fun a' hfr0 hx => ?_)
  have hst' := hst.fr hfr0 hD
  have hfr := hfr0.to1 hD
  cases f
  · refine wp_cond_false hx ?_
    exact h2 rfl a' w bs Q hst' (hh.fr hk hfr) hl fun a2 w2 hs2 hf2 => hq a2 w2 hs2 (hfr.trans hf2)
  · refine wp_cond_true hx ?_
    exact h1 rfl a' w bs Q hst' (hh.fr hk hfr) hl fun a2 w2 hs2 hf2 => hq a2 w2 hs2 (hfr.trans hf2)

/-- The code c appends what is said by a field at cell off of a part whose address lies in slot s. -/
def AppF (RT : RTags) (P : Program) (N nt : Nat) (ver : Int) (flex : Bool) (K : Slots) (lo t s : Nat) (c : Code) (off : Nat) (f : Sch) : Prop :=
  ∀ (w0 : World) (b o : Nat) (v : GV), Rep RT [] w0 ver flex f b (o + off) v → App P N nt w0 ((s, .pointer (some ⟨b, o, none⟩)) :: K) lo t c (ap ver flex f v)
/-- The same of a whole part. -/
def AppS (RT : RTags) (P : Program) (N nt : Nat) (ver : Int) (flex : Bool) (K : Slots) (lo t s : Nat) (c : Code) (f : Sch) : Prop :=
  ∀ (w0 : World) (b o : Nat) (v : GV), Rep RT [] w0 ver flex f b o v → App P N nt w0 ((s, .pointer (some ⟨b, o, none⟩)) :: K) lo t c (ap ver flex f v)
/-- The same of a value of a kind that has been loaded into slot u. -/
def AppL (P : Program) (N nt : Nat) (ver : Int) (flex : Bool) (K : Slots) (lo t u : Nat) (c : Code) (k : Leaf) : Prop :=
  ∀ (w0 : World) (b o : Nat) (x : Value) (v : GV), RepLeaf [] w0 flex b o k v → w0.cell? ⟨b, o, none⟩ = some x → App P N nt w0 ((u, x) :: K) lo t c (apLeaf ver flex k v)
/-- Function F appends what is said of a kind. -/
def LeafOK (P : Program) (ver : Int) (flex : Bool) (F : Nat) (k : Leaf) : Prop :=
  ∀ (w0 : World) (b o : Nat) (x : Value) (v : GV), RepLeaf [] w0 flex b o k v → w0.cell? ⟨b, o, none⟩ = some x → AppAt P F x (apLeaf ver flex k v) w0

theorem appL1 {ver : Int} {flex : Bool} {u t1 F r ty1 ty2 ty3 ty4 : Nat} {p1 p2 p3 p4 : String} {e1 e2 e3 e4 : Array Edge} {at_ : Array TypeId} {k : Leaf}
    (he : Enters P F) (hC : LeafOK P ver flex F k) (hD : Dims N nt lo t) (hd : t ≤ t1 ∧ t1 + 2 < nt ∧ u ≠ t1) :
    AppL P N nt ver flex K lo t u (Code.region r #[⟨some t1, .move (.tmp 1), ty1, p1, e1, none⟩, ⟨some (t1 + 1), .move (.tmp u), ty2, p2, e2, none⟩,
      ⟨some (t1 + 2), .call { callee := .value (.func F), args := #[.tmp t1, .tmp (t1 + 1)], argTypes := at_ }, ty3, p3, e3, none⟩, ⟨some 1, .assign (.tmp (t1 + 2)), ty4, p4, e4, none⟩] false) k :=
  fun w0 b o x v hr hc => app1 he (hC w0 b o x v hr hc) hD hd

theorem appL2 {ver : Int} {flex : Bool} {sf t1 r ty1 u : Nat} {p1 : String} {e1 : Array Edge} {c1 c2 : Code} {k : Leaf} (hk : KOK N lo t K) (hu : u ≠ 1 ∧ u < lo) (hf : (sf, Value.bool flex) ∈ K) (hD : Dims N nt lo t) (hd : t ≤ t1 ∧ t1 < nt)
    (h1 : flex = true → AppL P N nt ver flex K lo t u c1 k) (h2 : flex = false → AppL P N nt ver flex K lo t u c2 k) :
    AppL P N nt ver flex K lo t u ((Code.region r #[⟨some t1, .move (.tmp sf), ty1, p1, e1, none⟩] false).seq (.cond (.tmp t1) c1 c2)) k :=
  fun w0 b o x v hr hc => app_flag (hk.cons ⟨hu.1, .inl hu.2⟩) (List.mem_cons_of_mem _ hf) hD hd (fun h => h1 h w0 b o x v hr hc) (fun h => h2 h w0 b o x v hr hc)

theorem RepLeaf.hasCell {O : List Nat} {w : World} {flex : Bool} {b o : Nat} {k : Leaf} {v : GV} (h : RepLeaf O w flex b o k v) (hk : k ≠ .uuid) : ∃ x, w.cell? ⟨b, o, none⟩ = some x := by
  cases k <;> cases v <;> simp only [RepLeaf] at h <;> first | exact h.elim | exact ⟨_, h⟩ | exact ⟨_, h.1⟩ | (obtain ⟨⟨p, q, hc, -⟩, -⟩ := h; exact ⟨_, hc⟩) | (obtain ⟨⟨x, hc, -⟩, -⟩ := h; exact ⟨_, hc⟩) | exact absurd rfl hk

/-- '{ v := s.F; dst = ..(dst, v) }'. -/
theorem appF_leaf {ver : Int} {flex : Bool} {s v t1 T k U off r ty1 ty2 ty3 ty4 ty5 lo' t' : Nat} {p1 p2 p3 p4 p5 : String} {e1 e2 e3 e4 e5 : Array Edge} {c : Code} {lf : Leaf}
    (hk : KOK N lo t K) (hs : s ≠ 1 ∧ s < lo) (hT : FieldAt P T k off) (hU : OneCell P U) (hD : Dims N nt lo t) (hd : t ≤ t1 ∧ t1 + 3 < nt ∧ lo ≤ v ∧ v < N ∧ v < lo' ∧ lo ≤ lo' ∧ t ≤ t') (hlf : lf ≠ .uuid)
    (h : AppL P N nt ver flex K lo' t' v c lf) :
    AppF RT P N nt ver flex K lo t s ((Code.region r #[⟨some t1, .move (.tmp s), ty1, p1, e1, none⟩, ⟨some (t1 + 1), .nilCheck (.tmp t1), ty2, p2, e2, none⟩, ⟨some (t1 + 2), .fieldAddr T (.tmp (t1 + 1)) k, ty3, p3, e3, none⟩,
      ⟨some (t1 + 3), .load U (.tmp (t1 + 2)), ty4, p4, e4, none⟩, ⟨some v, .assign (.tmp (t1 + 3)), ty5, p5, e5, none⟩] false).seq c) off (.leaf lf) := by
  intro w0 b o gv hrep a w bs Q hst hh hl hq
  obtain ⟨x, hc⟩ := RepLeaf.hasCell hrep hlf
  obtain ⟨d1, d2, d3, d4, d5, d6, d7⟩ := hd
  refine wp_seq (reg_load (x0 := nt) (lo := lo) hT hU hst.size hh.head (x := x) (by rw [Addr.add_lit]; exact hst.cell hc) ⟨hD.dT, d1, d2, d3, d4⟩ fun a' hfr0 hx => ?_)
  have hfr := hfr0.to1 hD
  refine h w0 b (o + off) x gv hrep hc a' w bs _ (hst.fr hfr0 hD) ((hh.tail.fr hk hfr).cons hx) hl fun a2 w2 hs2 hf2 => hq a2 w2 hs2 (hfr.trans (hf2.mono d6 d7))


/-- A field, where the version has it. -/
def AppFV (RT : RTags) (P : Program) (N nt : Nat) (ver : Int) (flex : Bool) (K : Slots) (lo t s : Nat) (c : Code) (off : Nat) (vlo : Int) (vhi : Option Int) (f : Sch) : Prop :=
  ∀ (w0 : World) (b o : Nat) (v : GV), (hasV vlo vhi ver = true → Rep RT [] w0 ver flex f b (o + off) v) → App P N nt w0 ((s, .pointer (some ⟨b, o, none⟩)) :: K) lo t c (if hasV vlo vhi ver then ap ver flex f v else [])
theorem appFV_always {ver : Int} {flex : Bool} {s off : Nat} {vlo : Int} {vhi : Option Int} {c : Code} {f : Sch} (hv : hasV vlo vhi ver = true) (h : AppF RT P N nt ver flex K lo t s c off f) : AppFV RT P N nt ver flex K lo t s c off vlo vhi f :=
  fun w0 b o v hr => (h w0 b o v (hr hv)).of_eq (by rw [if_pos hv])
theorem app_if {a : Act} {w : World} {bs : List UInt8} {Q : Exit → Act → World → Prop} {c : Code} {new : List UInt8} {x : Nat} {b : Bool} (hx : aget a x = .bool b) (hst : St nt w0 a w bs) (hh : Holds K a) (hl : bs.length + (if b then new else []).length ≤ lim)
    (h : b = true → App P N nt w0 K lo t c new) (hq : ∀ a' w', St nt w0 a' w' (bs ++ if b then new else []) → Fr N lo t 1 a a' → Q .normal a' w') : (Code.cond (.tmp x) c .skip).wp P Q a w := by
  cases b
  · refine wp_cond_false hx (wp_skip (hq a w (by simpa using hst) (Fr.refl ..)))
  · exact wp_cond_true hx (h rfl a w bs Q hst hh hl hq)
theorem appFV_ge {ver : Int} {flex : Bool} {s off sv t1 r ty1 ty2 T U : Nat} {p1 p2 : String} {e1 e2 : Array Edge} {n : Int} {c : Code} {f : Sch} (hk : KOK N lo t K) (hs : s ≠ 1 ∧ s < lo) (hsv : (sv, Value.int .i16 ver) ∈ K) (hD : Dims N nt lo t) (hd : t ≤ t1 ∧ t1 + 1 < nt)
    (h : AppF RT P N nt ver flex K lo t s c off f) :
    AppFV RT P N nt ver flex K lo t s ((Code.region r #[⟨some t1, .move (.tmp sv), ty1, p1, e1, none⟩, ⟨some (t1 + 1), .binOp .geq T (.tmp t1) (.const (.int .i16 n)) U, ty2, p2, e2, none⟩] false).seq (.cond (.tmp (t1 + 1)) c .skip)) off n none f := by
  intro w0 b o v hr a w bs Q hst hh hl hq
  refine wp_seq (reg_cmp (x0 := nt) (lo := lo) (b := hasV n none ver) hst.size (hh.tail _ hsv) ⟨hD.dT, hd.1, hd.2, hD.dLo⟩ (fun w => by rw [run_cmp_i16]; simp [hasV]) fun a' hfr0 hx => ?_)
  have hfr := hfr0.to1 hD
  exact app_if hx (hst.fr hfr0 hD) (hh.fr (hk.cons ⟨hs.1, .inl hs.2⟩) hfr) hl (fun hb => h w0 b o v (hr hb)) fun a2 w2 hs2 hf2 => hq a2 w2 hs2 (hfr.trans hf2)
theorem appFV_range {ver : Int} {flex : Bool} {s off sv t1 r ty1 ty2 ty3 ty4 ty5 ty6 T U T' U' : Nat} {p1 p2 p3 p4 p5 p6 : String} {e1 e2 e3 e4 e5 e6 : Array Edge} {n m : Int} {c : Code} {f : Sch} (hk : KOK N lo t K) (hs : s ≠ 1 ∧ s < lo) (hsv : (sv, Value.int .i16 ver) ∈ K) (hsl : sv < t1) (hD : Dims N nt lo t) (hd : t ≤ t1 ∧ t1 + 5 < nt)
    (h : AppF RT P N nt ver flex K lo t s c off f) :
    AppFV RT P N nt ver flex K lo t s ((Code.region r #[⟨some t1, .move (.tmp sv), ty1, p1, e1, none⟩, ⟨some (t1 + 1), .binOp .geq T (.tmp t1) (.const (.int .i16 n)) U, ty2, p2, e2, none⟩, ⟨some (t1 + 2), .move (.tmp (t1 + 1)), ty3, p3, e3, none⟩,
      ⟨some (t1 + 3), .move (.tmp sv), ty4, p4, e4, some (2, true)⟩, ⟨some (t1 + 4), .binOp .leq T' (.tmp (t1 + 3)) (.const (.int .i16 m)) U', ty5, p5, e5, some (2, true)⟩,
      ⟨some (t1 + 5), .pick (.tmp (t1 + 2)) (.tmp (t1 + 4)) (.const (.bool false)), ty6, p6, e6, none⟩] false).seq (.cond (.tmp (t1 + 5)) c .skip)) off n (some m) f := by
  intro w0 b o v hr a w bs Q hst hh hl hq
  refine wp_seq (reg_range (x0 := nt) (lo := lo) hst.size (hh.tail _ hsv) ⟨hD.dT, hd.1, hd.2, hD.dLo, by omega, by omega, by omega⟩ fun a' hfr0 hx => ?_)
  have hfr := hfr0.to1 hD
  exact app_if hx (hst.fr hfr0 hD) (hh.fr (hk.cons ⟨hs.1, .inl hs.2⟩) hfr) hl (fun hb => h w0 b o v (hr hb)) fun a2 w2 hs2 hf2 => hq a2 w2 hs2 (hfr.trans hf2)

theorem appS_cons {ver : Int} {flex : Bool} {s off : Nat} {vlo : Int} {vhi : Option Int} {c1 c2 : Code} {f rest : Sch} (hk : KOK N lo t K) (hs : s ≠ 1 ∧ s < lo) (h1 : AppFV RT P N nt ver flex K lo t s c1 off vlo vhi f) (h2 : AppS RT P N nt ver flex K lo t s c2 rest) :
    AppS RT P N nt ver flex K lo t s (c1.seq c2) (.cons off vlo vhi f rest) := by
  intro w0 b o v hr
  cases v <;> simp only [Rep] at hr <;> try exact hr.elim
  rename_i v vs
  exact App.seq (hk.cons ⟨hs.1, .inl hs.2⟩) (h1 w0 b o v hr.1) (h2 w0 b o vs hr.2)
theorem appS_last {ver : Int} {flex : Bool} {s off : Nat} {vlo : Int} {vhi : Option Int} {c1 : Code} {f : Sch} (h1 : AppFV RT P N nt ver flex K lo t s c1 off vlo vhi f) : AppS RT P N nt ver flex K lo t s c1 (.cons off vlo vhi f .done) := by
  intro w0 b o v hr
  cases v <;> simp only [Rep] at hr <;> try exact hr.elim
  rename_i v vs
  refine (h1 w0 b o v hr.1).of_eq ?_
  cases vs <;> simp [ap]

/-- A part within a part. -/
theorem appF_sub {ver : Int} {flex : Bool} {s v t1 T k off r ty1 ty2 ty3 ty4 lo' t' : Nat} {p1 p2 p3 p4 : String} {e1 e2 e3 e4 : Array Edge} {c : Code} {f : Sch}
    (hk : KOK N lo t K) (hT : FieldAt P T k off) (hD : Dims N nt lo t) (hd : t ≤ t1 ∧ t1 + 2 < nt ∧ lo ≤ v ∧ v < N ∧ v < lo' ∧ lo ≤ lo' ∧ t ≤ t')
    (h : AppS RT P N nt ver flex K lo' t' v c f) :
    AppF RT P N nt ver flex K lo t s ((Code.region r #[⟨some t1, .move (.tmp s), ty1, p1, e1, none⟩, ⟨some (t1 + 1), .nilCheck (.tmp t1), ty2, p2, e2, none⟩, ⟨some (t1 + 2), .fieldAddr T (.tmp (t1 + 1)) k, ty3, p3, e3, none⟩,
      ⟨some v, .assign (.tmp (t1 + 2)), ty4, p4, e4, none⟩] false).seq c) off f := by
  intro w0 b o gv hrep a w bs Q hst hh hl hq
  obtain ⟨d1, d2, d3, d4, d5, d6, d7⟩ := hd
  refine wp_seq (reg_addr (x0 := nt) (lo := lo) hT hst.size hh.head ⟨hD.dT, d1, d2, d3, d4⟩ fun a' hfr0 hx => ?_)
  rw [Addr.add_lit] at hx
  have hfr := hfr0.to1 hD
  exact h w0 b (o + off) gv hrep a' w bs _ (hst.fr hfr0 hD) ((hh.tail.fr hk hfr).cons hx) hl fun a2 w2 hs2 hf2 => hq a2 w2 hs2 (hfr.trans (hf2.mono d6 d7))

/-- The count ahead of a list that has been loaded into slot u. -/
def AppLen (P : Program) (N nt : Nat) (flex : Bool) (K : Slots) (lo t u : Nat) (c : Code) (nul : Option Int) : Prop :=
  ∀ (w0 : World) (a : Option Addr) (n cap : Nat), n ≤ 2147483647 → (nul.isSome = false ∨ a.isSome = true) → App P N nt w0 ((u, .slice a n cap) :: K) lo t c (lenB flex n)
def AppNul (P : Program) (N nt : Nat) (flex : Bool) (K : Slots) (lo t u : Nat) (c : Code) : Prop :=
  ∀ (w0 : World), App P N nt w0 ((u, .slice none 0 0) :: K) lo t c (nulB flex)
/-- One thing of a list: slot u holds the list, slot i its place. -/
def AppEl (RT : RTags) (P : Program) (N nt : Nat) (ver : Int) (flex : Bool) (K : Slots) (lo t u i : Nat) (c : Code) (esz : Nat) (e : Sch) : Prop :=
  ∀ (w0 : World) (p q n cap k : Nat) (v : GV), k < n → p < w0.heap.size → Rep RT [] w0 ver flex e p (q + k * esz) v →
    App P N nt w0 ((i, .int .i64 k) :: (u, .slice (some ⟨p, q, none⟩) n cap) :: K) lo t c (ap ver flex e v)

/-- 'for i := range v { .. }' over a list that lies in slot u. -/
theorem app_range {ver : Int} {flex : Bool} {u i t2 t9 lo' t' r1 r2 r3 r4 B B' T E T2 U2 T3 U3 ty1 ty2 ty3 ty4 ty5 ty6 ty7 ty8 esz : Nat} {p1 p2 p3 p4 p5 p6 p7 p8 : String} {e1 e2 e3 e4 e5 e6 e7 e8 : Array Edge} {c : Code} {e : Sch} {l : List GV} {ad : Option Addr} {cap : Nat}
    (hk : KOK N lo t K) (hT : P.underlying T = some (.slice E)) (hD : Dims N nt lo t)
    (hd : t ≤ t2 ∧ t2 + 4 < nt ∧ lo ≤ u + 1 ∧ u < i ∧ i < N ∧ i < lo' ∧ lo ≤ i ∧ t2 + 4 < t' ∧ t' ≤ t9 ∧ t9 < nt ∧ u ≠ 1 ∧ u < N ∧ lo ≤ lo' ∧ lo' ≤ N) (hB : B ≠ B')
    (hl0 : l.length ≤ 2147483647) (hrep : l ≠ [] → ∃ p q, ad = some ⟨p, q, none⟩ ∧ p < w0.heap.size ∧ ∀ i v, l[i]? = some v → Rep RT [] w0 ver flex e p (q + i * esz) v)
    (h : AppEl RT P N nt ver flex K lo' t' u i c esz e) :
    App P N nt w0 ((u, .slice ad l.length cap) :: K) lo t
      ((Code.region r1 #[⟨some t2, .move (.tmp u), ty1, p1, e1, none⟩, ⟨some (t2 + 1), .call { callee := .builtin .len, args := #[.tmp t2], argTypes := #[T] }, ty2, p2, e2, none⟩, ⟨some (t2 + 2), .move (.const (.int .i64 0)), ty3, p3, e3, none⟩] false).seq
        (.block B (.loop ((Code.region r2 #[⟨some (t2 + 3), .binOp .lss T2 (.tmp (t2 + 2)) (.tmp (t2 + 1)) U2, ty4, p4, e4, none⟩] false).seq ((Code.cond (.tmp (t2 + 3)) .skip (.exit B)).seq
          ((Code.block B' ((Code.region r3 #[⟨some (t2 + 4), .move (.tmp (t2 + 2)), ty5, p5, e5, none⟩, ⟨some i, .assign (.tmp (t2 + 4)), ty6, p6, e6, none⟩] false).seq c)).seq
            (.region r4 #[⟨some t9, .binOp .add T3 (.tmp (t2 + 2)) (.const (.int .i64 1)) U3, ty7, p7, e7, none⟩, ⟨some (t2 + 2), .move (.tmp t9), ty8, p8, e8, none⟩] false)))))))
      (l.flatMap (ap ver flex e)) := by
  intro a w bs Q hst hh hl hq
  obtain ⟨d1, d2, d3, d4, d5, d6, d7, d8, d9, d10, d11, d12, d13, d14⟩ := hd
  have hN := hst.size
  have g1 := hD.dOne; have g2 := hD.dLo; have g3 := hD.dT; have g4 := hD.dN
  refine wp_seq (wp_reg ?_)
  refine wl_move hh.head ?_
  refine wl_len_slice hT (aget_put_same _ _ _ (by (first | rw [hN] | simp only [size_put, hN]); omega)) ?_
  refine wl_move_c ?_
  refine wpList_nil ?_
  generalize ha1 : Act.put (Act.put (Act.put a (some t2) (.slice ad l.length cap)) (some (t2 + 1)) (.int .i64 l.length)) (some (t2 + 2)) (.int .i64 0) = a1
  have hf1 : Fr N lo t nt a a1 := by rw [← ha1]; exact (((Fr.refl N lo t nt a).put _ _ (by omega)).put _ _ (by omega)).put _ _ (by omega)
  have hn1 : aget a1 (t2 + 1) = .int .i64 l.length := by rw [← ha1, aget_put_other _ _ _ _ (by omega)]; exact aget_put_same _ _ _ (by (first | rw [hN] | simp only [size_put, hN]); omega)
  have hi1 : aget a1 (t2 + 2) = .int .i64 0 := by rw [← ha1]; exact aget_put_same _ _ _ (by (first | rw [hN] | simp only [size_put, hN]); omega)
  have hu1 : aget a1 u = .slice ad l.length cap := by rw [← ha1, aget_put_other _ _ _ _ (by omega), aget_put_other _ _ _ _ (by omega), aget_put_other _ _ _ _ (by omega)]; exact hh.head
  clear ha1
  have hst1 := hst.fr hf1 hD
  have hK1 : Holds K a1 := hh.tail.fr hk (hf1.to1 hD)
  refine wp_block ?_
  refine wp_loop (fun a' w' => ∃ k, k ≤ l.length ∧ St nt w0 a' w' (bs ++ (l.take k).flatMap (ap ver flex e)) ∧ aget a' (t2 + 2) = .int .i64 k ∧ aget a' (t2 + 1) = .int .i64 l.length ∧ aget a' u = .slice ad l.length cap ∧ Fr N lo t 1 a1 a')
    (fun a' _ => l.length - (intOf (aget a' (t2 + 2))).toNat) ⟨0, Nat.zero_le _, by simpa using hst1, hi1, hn1, hu1, Fr.refl ..⟩ ?_
  rintro a2 w2 ⟨k, hk1, hst2, hi2, hn2, hu2, hf2⟩
  have hN2 := hst2.size
  refine wp_seq (wp_reg ?_)
  refine wl_bin2 (r := .bool (decide ((k : Int) < l.length))) hi2 hn2 (eqGuard_at_int ..) (by simp [binOp, Op.intCmp]) ?_
  refine wpList_nil ?_
  generalize ha3 : Act.put a2 (some (t2 + 3)) (.bool (decide ((k : Int) < l.length))) = a3
  have hx3 : aget a3 (t2 + 3) = .bool (decide ((k : Int) < l.length)) := by rw [← ha3]; exact aget_put_same _ _ _ (by omega)
  have hf3 : Fr N lo t nt a2 a3 := by rw [← ha3]; exact (Fr.refl N lo t nt a2).put _ _ (by omega)
  have hi3 : aget a3 (t2 + 2) = .int .i64 k := by rw [← ha3, aget_put_other _ _ _ _ (by omega)]; exact hi2
  have hn3 : aget a3 (t2 + 1) = .int .i64 l.length := by rw [← ha3, aget_put_other _ _ _ _ (by omega)]; exact hn2
  have hu3 : aget a3 u = .slice ad l.length cap := by rw [← ha3, aget_put_other _ _ _ _ (by omega)]; exact hu2
  clear ha3
  have hst3 := hst2.fr hf3 hD
  have hN3 := hst3.size
  by_cases hlt : k < l.length
  · have hdec : decide ((k : Int) < l.length) = true := by simp; omega
    rw [hdec] at hx3
    refine wp_seq (wp_cond_true hx3 (wp_skip ?_))
    refine wp_seq (wp_block ?_)
    refine wp_seq (wp_reg ?_)
    refine wl_move hi3 ?_
    refine wl_assign (aget_put_same _ _ _ (by omega)) ?_
    refine wpList_nil ?_
    generalize ha4 : Act.put (Act.put a3 (some (t2 + 4)) (.int .i64 k)) (some i) (.int .i64 k) = a4
    have hf4 : Fr N lo t nt a3 a4 := by rw [← ha4]; exact ((Fr.refl N lo t nt a3).put _ _ (by omega)).put _ _ (by omega)
    have hx4 : aget a4 i = .int .i64 k := by rw [← ha4]; exact aget_put_same _ _ _ (by simp only [size_put]; omega)
    have hi4 : aget a4 (t2 + 2) = .int .i64 k := by rw [← ha4, aget_put_other _ _ _ _ (by omega), aget_put_other _ _ _ _ (by omega)]; exact hi3
    have hn4 : aget a4 (t2 + 1) = .int .i64 l.length := by rw [← ha4, aget_put_other _ _ _ _ (by omega), aget_put_other _ _ _ _ (by omega)]; exact hn3
    have hu4 : aget a4 u = .slice ad l.length cap := by rw [← ha4, aget_put_other _ _ _ _ (by omega), aget_put_other _ _ _ _ (by omega)]; exact hu3
    clear ha4
    have hst4 := hst3.fr hf4 hD
    obtain ⟨p, q, rfl, hp, hel⟩ := hrep (fun e => by rw [e] at hlt; simp at hlt)
    have hsp : l.flatMap (ap ver flex e) = (l.take k).flatMap (ap ver flex e) ++ (ap ver flex e l[k] ++ (l.drop (k + 1)).flatMap (ap ver flex e)) := by
      conv => lhs; rw [← List.take_append_drop k l, List.flatMap_append, List.drop_eq_getElem_cons hlt, List.flatMap_cons]
    have hsn : (l.take (k + 1)).flatMap (ap ver flex e) = (l.take k).flatMap (ap ver flex e) ++ ap ver flex e l[k] := by
      rw [List.take_succ_eq_append_getElem hlt, List.flatMap_append, List.flatMap_cons, List.flatMap_nil, List.append_nil]
    refine h w0 p q l.length cap k l[k] hlt hp (hel k l[k] (List.getElem?_eq_getElem hlt)) a4 w2 _ _ hst4 (((hK1.fr hk (hf2.trans ((hf3.to1 hD).trans (hf4.to1 hD)))).cons hu4).cons hx4) ?_ fun a5 w5 hst5 hf5 => ?_
    · rw [hsp] at hl
      simp only [List.length_append] at hl ⊢
      omega
    have hi5 : aget a5 (t2 + 2) = .int .i64 k := (hf5.same _ (by omega) (.inr ⟨by omega, by omega⟩)).trans hi4
    have hn5 : aget a5 (t2 + 1) = .int .i64 l.length := (hf5.same _ (by omega) (.inr ⟨by omega, by omega⟩)).trans hn4
    have hu5 : aget a5 u = .slice (some ⟨p, q, none⟩) l.length cap := (hf5.same _ (by omega) (.inl (by omega))).trans hu4
    have hN5 := hst5.size
    simp only [Exit.inBlock, Exit.then]
    refine wp_reg ?_
    refine wl_bin (r := .int .i64 ((k + 1 : Nat) : Int)) hi5 (eqGuard_at_int ..) ?_ ?_
    · simp only [binOp, Op.intArith]
      simp
      have : IntKind.i64.wrap ((k : Int) + 1) = (k : Int) + 1 := by
        rw [IntKind.wrap_i64]
        omega
      rw [this]
    refine wl_move (aget_put_same _ _ _ (by omega)) ?_
    refine wpList_nil ?_
    have hf6 : Fr N lo t nt a5 ((a5.put (some t9) (.int .i64 ((k + 1 : Nat) : Int))).put (some (t2 + 2)) (.int .i64 ((k + 1 : Nat) : Int))) := ((Fr.refl N lo t nt a5).put _ _ (by omega)).put _ _ (by omega)
    refine ⟨⟨k + 1, by omega, ?_, aget_put_same _ _ _ (by simp only [size_put]; omega), ?_, ?_, ?_⟩, ?_⟩
    · rw [hsn, ← List.append_assoc]
      exact hst5.fr hf6 hD
    · rw [aget_put_other _ _ _ _ (by omega), aget_put_other _ _ _ _ (by omega)]; exact hn5
    · rw [aget_put_other _ _ _ _ (by omega), aget_put_other _ _ _ _ (by omega)]; exact hu5
    · exact hf2.trans ((hf3.to1 hD).trans ((hf4.to1 hD).trans ((hf5.mono (by omega) (by omega)).trans (hf6.to1 hD))))
    · rw [aget_put_same _ _ _ (by simp only [size_put]; omega), hi2]
      simp [intOf]
      omega
  · have hdec : decide ((k : Int) < l.length) = false := by simp; omega
    rw [hdec] at hx3
    have hke : k = l.length := by omega
    refine wp_seq (wp_cond_false hx3 (wp_exit ?_))
    simp only [Exit.then, Exit.inBlock, if_true]
    refine hq a3 w2 ?_ ((hf1.to1 hD).trans (hf2.trans (hf3.to1 hD)))
    rw [hke, List.take_length] at hst2
    exact hst2.fr hf3 hD
end
end Go.Proofs.Ytkhpglongkhbjaa
