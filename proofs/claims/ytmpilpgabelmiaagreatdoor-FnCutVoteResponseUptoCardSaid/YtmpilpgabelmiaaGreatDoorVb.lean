/- Shared texts of these proofs, laid together by merge.py: App, Rm, Rk, Ru. -/
import Derived.Test.YtmpilpgabelmiaaGreatDoorVa
import Derived.Lib.Hide
import Derived.Lib.Endian
import Derived.Deep.RegionHeld3
import Derived.WalkMore
import Derived.ScopeJumps
set_option linter.unusedVariables false
/- The code that writes a part appends just what 'ap' says: one rule for each form of the generated code. Any program. -/
namespace Go.Proofs.YtmpilpgabelmiaaGreatDoor
open Go Go.RowKit
set_option linter.unusedVariables false

/-- Where a walk of AppendTo stands: slot 1 holds the bytes bs, of the call's own; below the heap as the call began nothing has turned. -/
structure St (nt : Nat) (w0 : World) (a : Act) (w : World) (bs : List UInt8) : Prop where
  size : a.tmps.size = nt
  own : Own w0.heap.size w (aget a 1) bs
  below : Below w0.heap.size w0 w
theorem St.cell {nt : Nat} {w0 : World} {a : Act} {w : World} {bs : List UInt8} (h : St nt w0 a w bs) {ad : Addr} {x : Value} (hc : w0.cell? ad = some x) : w.cell? ad = some x :=
  (h.below.cell (World.block_lt_of_cell? w0 ad hc)).trans hc

abbrev Slots := List (Nat × Value)
def Holds (K : Slots) (a : Act) : Prop := ∀ p ∈ K, aget a p.1 = p.2
/-- No slot of K is written. -/
def KOK (N lo t : Nat) (K : Slots) : Prop := ∀ p ∈ K, p.1 ≠ 1 ∧ (p.1 < lo ∨ (N ≤ p.1 ∧ p.1 < t))
theorem Holds.fr {N lo t : Nat} {K : Slots} {a a' : Act} (h : Holds K a) (hk : KOK N lo t K) (hf : Fr N lo t 1 a a') : Holds K a' :=
  fun p hp => (hf.same p.1 (hk p hp).1 (hk p hp).2).trans (h p hp)
theorem Holds.tail {p : Nat × Value} {K : Slots} {a : Act} (h : Holds (p :: K) a) : Holds K a := fun q hq => h q (List.mem_cons_of_mem _ hq)
theorem Holds.head {u : Nat} {x : Value} {K : Slots} {a : Act} (h : Holds ((u, x) :: K) a) : aget a u = x := h (u, x) (List.mem_cons_self ..)
theorem Holds.cons {u : Nat} {x : Value} {K : Slots} {a : Act} (h : Holds K a) (hx : aget a u = x) : Holds ((u, x) :: K) a := by
  intro p hp
  rcases List.mem_cons.1 hp with rfl | hp
  · exact hx
  · exact h p hp
theorem KOK.tail {N lo t : Nat} {p : Nat × Value} {K : Slots} (h : KOK N lo t (p :: K)) : KOK N lo t K := fun q hq => h q (List.mem_cons_of_mem _ hq)
theorem KOK.cons {N lo t u : Nat} {x : Value} {K : Slots} (h : KOK N lo t K) (hu : u ≠ 1 ∧ (u < lo ∨ (N ≤ u ∧ u < t))) : KOK N lo t ((u, x) :: K) := by
  intro p hp
  rcases List.mem_cons.1 hp with rfl | hp
  · exact hu
  · exact h p hp

/-- The measures of a piece of code: slot 1 is below all that it writes. -/
structure Dims (N nt lo t : Nat) : Prop where
  dOne : 1 < lo
  dLo : lo ≤ N
  dT : N ≤ t
  dN : t ≤ nt
theorem Fr.to1 {N nt lo t : Nat} {a a' : Act} (h : Fr N lo t nt a a') (hd : Dims N nt lo t) : Fr N lo t 1 a a' :=
  ⟨h.size, h.defers, fun i _ hi => h.same i (by have := hd.dLo; have := hd.dT; have := hd.dN; omega) hi⟩
theorem St.fr {N nt lo t : Nat} {w0 : World} {a a' : Act} {w : World} {bs : List UInt8} (h : St nt w0 a w bs) (hf : Fr N lo t nt a a') (hd : Dims N nt lo t) : St nt w0 a' w bs := by
  refine ⟨hf.size.trans h.size, ?_, h.below⟩
  rw [hf.same 1 (by have := hd.dOne; have := hd.dLo; have := hd.dT; have := hd.dN; omega) (.inl hd.dOne)]
  exact h.own

/-- The code c appends new. -/
def App (P : Program) (N nt : Nat) (w0 : World) (K : Slots) (lo t : Nat) (c : Code) (new : List UInt8) : Prop :=
  ∀ (a : Act) (w : World) (bs : List UInt8) (Q : Exit → Act → World → Prop), St nt w0 a w bs → Holds K a → bs.length + new.length ≤ lim →
    (∀ a' w', St nt w0 a' w' (bs ++ new) → Fr N lo t 1 a a' → Q .normal a' w') → c.wp P Q a w

section
variable {RT : RTags} {P : Program} {N nt : Nat} {w0 : World} {K : Slots} {lo t : Nat}

theorem App.seq {c1 c2 : Code} {n1 n2 : List UInt8} (hk : KOK N lo t K) (h1 : App P N nt w0 K lo t c1 n1) (h2 : App P N nt w0 K lo t c2 n2) : App P N nt w0 K lo t (c1.seq c2) (n1 ++ n2) := by
  intro a w bs Q hst hh hl hq
  simp only [List.length_append] at hl
  refine wp_seq (h1 a w bs _ hst hh (by omega) fun a1 w1 hst1 hf1 => ?_)
  refine h2 a1 w1 _ _ hst1 (hh.fr hk hf1) (by simp only [List.length_append]; omega) fun a2 w2 hst2 hf2 => ?_
  rw [List.append_assoc] at hst2
  exact hq a2 w2 hst2 (hf1.trans hf2)
theorem App.mono {c : Code} {n : List UInt8} {K' : Slots} {lo' t' : Nat} (h : App P N nt w0 K' lo' t' c n) (hk : ∀ p, p ∈ K' → p ∈ K) (h1 : lo ≤ lo') (h2 : t ≤ t') : App P N nt w0 K lo t c n :=
  fun a w bs Q hst hh hl hq => h a w bs Q hst (fun p hp => hh p (hk p hp)) hl fun a' w' hst' hf => hq a' w' hst' (hf.mono h1 h2)
theorem App.skip : App P N nt w0 K lo t .skip [] :=
  fun a w bs Q hst _ _ hq => wp_skip (hq a w (by simpa using hst) (Fr.refl ..))
theorem App.of_eq {c : Code} {n n' : List UInt8} (h : App P N nt w0 K lo t c n) (e : n = n') : App P N nt w0 K lo t c n' := e ▸ h

/-- Function F, handed x behind the bytes, appends new, while below w0's heap nothing turns. -/
def AppAt (P : Program) (F : Nat) (x : Value) (new : List UInt8) (w0 : World) : Prop :=
  ∀ (w : World) (v : Value) (bs : List UInt8), Below w0.heap.size w0 w → Own w0.heap.size w v bs → bs.length + new.length ≤ lim → Calls P F #[v, x] w (Appended w0.heap.size w (bs ++ new))
theorem AppC.at {F : Nat} {x : Value} {new : List UInt8} (h : AppC P F x new) : AppAt P F x new w0 :=
  fun w v bs hb ho hl => h w0.heap.size w v bs ho hb.size hl

/-- 'dst = F(dst, v)'. -/
theorem app1 {u t1 F r ty1 ty2 ty3 ty4 : Nat} {p1 p2 p3 p4 : String} {e1 e2 e3 e4 : Array Edge} {at_ : Array TypeId} {x : Value} {new : List UInt8}
    (he : Enters P F) (hC : AppAt P F x new w0) (hD : Dims N nt lo t) (hd : t ≤ t1 ∧ t1 + 2 < nt ∧ u ≠ t1) :
    App P N nt w0 ((u, x) :: K) lo t (Code.region r #[⟨some t1, .move (.tmp 1), ty1, p1, e1, none⟩, ⟨some (t1 + 1), .move (.tmp u), ty2, p2, e2, none⟩,
      ⟨some (t1 + 2), .call { callee := .value (.func F), args := #[.tmp t1, .tmp (t1 + 1)], argTypes := at_ }, ty3, p3, e3, none⟩, ⟨some 1, .assign (.tmp (t1 + 2)), ty4, p4, e4, none⟩] false) new := by
  intro a w bs Q hst hh hl hq
  obtain ⟨g1, g2, g3, g4⟩ := hD
  obtain ⟨h1, h2, h3⟩ := hd
  have hN := hst.size
  refine wp_reg ?_
  refine wl_move rfl ?_
  refine wl_move (v := x) (by rw [aget_put_other _ _ _ _ (by omega)]; exact hh.head) ?_
  refine wl_call (R := Appended w0.heap.size w (bs ++ new)) he ?_ ?_
  · simp only [List.map_toArray, List.map_cons, List.map_nil, aget_eval]
    rw [aget_put_other _ _ _ _ (by omega), aget_put_same _ _ _ (by (first | rw [hN] | simp only [size_put, hN]); omega), aget_put_same _ _ _ (by (first | rw [hN] | simp only [size_put, hN]); omega)]
    exact hC w _ bs hst.below hst.own hl
  · rintro e w' ⟨v', rfl, hown, hbel⟩
    refine ⟨v', rfl, ?_⟩
    refine wl_assign (aget_put_same _ _ _ (by (first | rw [hN] | simp only [size_put, hN]); omega)) ?_
    refine wpList_nil (hq _ _ ⟨by simp only [size_put, hN], ?_, hst.below.trans hbel⟩ (((((Fr.refl N lo t 1 a).put _ _ (by omega)).put _ _ (by omega)).put _ _ (by omega)).put _ _ (by omega)))
    rw [aget_put_same _ _ _ (by (first | rw [hN] | simp only [size_put, hN]); omega)]
    exact hown

/-- A test of a flag, two ways. -/
theorem app_flag {sf t1 r ty1 : Nat} {p1 : String} {e1 : Array Edge} {f : Bool} {c1 c2 : Code} {new : List UInt8} (hk : KOK N lo t K) (hf : (sf, Value.bool f) ∈ K) (hD : Dims N nt lo t) (hd : t ≤ t1 ∧ t1 < nt)
    (h1 : f = true → App P N nt w0 K lo t c1 new) (h2 : f = false → App P N nt w0 K lo t c2 new) :
    App P N nt w0 K lo t ((Code.region r #[⟨some t1, .move (.tmp sf), ty1, p1, e1, none⟩] false).seq (.cond (.tmp t1) c1 c2)) new := by
  intro a w bs Q hst hh hl hq
  refine wp_seq (reg_flag (x0 := nt) (lo := lo) hst.size (hh _ hf) ⟨hD.dT, hd.1, hd.2, hD.dLo⟩ fun a' hfr0 hx => ?_)
  have hst' := hst.fr hfr0 hD
  have hfr := hfr0.to1 hD
  cases f
  · refine wp_cond_false hx ?_
    exact h2 rfl a' w bs Q hst' (hh.fr hk hfr) hl fun a2 w2 hs2 hf2 => hq a2 w2 hs2 (hfr.trans hf2)
  · refine wp_cond_true hx ?_
    exact h1 rfl a' w bs Q hst' (hh.fr hk hfr) hl fun a2 w2 hs2 hf2 => hq a2 w2 hs2 (hfr.trans hf2)

/-- The code c appends what is said by a field at cell off of a part whose address lies in slot s. -/
def AppF (RT : RTags) (P : Program) (N nt : Nat) (ver : Int) (flex : Bool) (K : Slots) (lo t s : Nat) (c : Code) (off : Nat) (f : Sch) : Prop :=
  ∀ (w0 : World) (b o : Nat) (v : GV), Rep RT [] w0 ver flex f b (o + off) v → App P N nt w0 ((s, .pointer (some ⟨b, o, none⟩)) :: K) lo t c (ap ver flex f v)
/-- The same of a whole part. -/
def AppS (RT : RTags) (P : Program) (N nt : Nat) (ver : Int) (flex : Bool) (K : Slots) (lo t s : Nat) (c : Code) (f : Sch) : Prop :=
  ∀ (w0 : World) (b o : Nat) (v : GV), Rep RT [] w0 ver flex f b o v → App P N nt w0 ((s, .pointer (some ⟨b, o, none⟩)) :: K) lo t c (ap ver flex f v)
/-- The same of a value of a kind that has been loaded into slot u. -/
def AppL (P : Program) (N nt : Nat) (ver : Int) (flex : Bool) (K : Slots) (lo t u : Nat) (c : Code) (k : Leaf) : Prop :=
  ∀ (w0 : World) (b o : Nat) (x : Value) (v : GV), RepLeaf [] w0 flex b o k v → w0.cell? ⟨b, o, none⟩ = some x → App P N nt w0 ((u, x) :: K) lo t c (apLeaf ver flex k v)
/-- Function F appends what is said of a kind. -/
def LeafOK (P : Program) (ver : Int) (flex : Bool) (F : Nat) (k : Leaf) : Prop :=
  ∀ (w0 : World) (b o : Nat) (x : Value) (v : GV), RepLeaf [] w0 flex b o k v → w0.cell? ⟨b, o, none⟩ = some x → AppAt P F x (apLeaf ver flex k v) w0

theorem appL1 {ver : Int} {flex : Bool} {u t1 F r ty1 ty2 ty3 ty4 : Nat} {p1 p2 p3 p4 : String} {e1 e2 e3 e4 : Array Edge} {at_ : Array TypeId} {k : Leaf}
    (he : Enters P F) (hC : LeafOK P ver flex F k) (hD : Dims N nt lo t) (hd : t ≤ t1 ∧ t1 + 2 < nt ∧ u ≠ t1) :
    AppL P N nt ver flex K lo t u (Code.region r #[⟨some t1, .move (.tmp 1), ty1, p1, e1, none⟩, ⟨some (t1 + 1), .move (.tmp u), ty2, p2, e2, none⟩,
      ⟨some (t1 + 2), .call { callee := .value (.func F), args := #[.tmp t1, .tmp (t1 + 1)], argTypes := at_ }, ty3, p3, e3, none⟩, ⟨some 1, .assign (.tmp (t1 + 2)), ty4, p4, e4, none⟩] false) k :=
  fun w0 b o x v hr hc => app1 he (hC w0 b o x v hr hc) hD hd

theorem appL2 {ver : Int} {flex : Bool} {sf t1 r ty1 u : Nat} {p1 : String} {e1 : Array Edge} {c1 c2 : Code} {k : Leaf} (hk : KOK N lo t K) (hu : u ≠ 1 ∧ u < lo) (hf : (sf, Value.bool flex) ∈ K) (hD : Dims N nt lo t) (hd : t ≤ t1 ∧ t1 < nt)
    (h1 : flex = true → AppL P N nt ver flex K lo t u c1 k) (h2 : flex = false → AppL P N nt ver flex K lo t u c2 k) :
    AppL P N nt ver flex K lo t u ((Code.region r #[⟨some t1, .move (.tmp sf), ty1, p1, e1, none⟩] false).seq (.cond (.tmp t1) c1 c2)) k :=
  fun w0 b o x v hr hc => app_flag (hk.cons ⟨hu.1, .inl hu.2⟩) (List.mem_cons_of_mem _ hf) hD hd (fun h => h1 h w0 b o x v hr hc) (fun h => h2 h w0 b o x v hr hc)

theorem RepLeaf.hasCell {O : List Nat} {w : World} {flex : Bool} {b o : Nat} {k : Leaf} {v : GV} (h : RepLeaf O w flex b o k v) (hk : k ≠ .uuid) : ∃ x, w.cell? ⟨b, o, none⟩ = some x := by
  cases k <;> cases v <;> simp only [RepLeaf] at h <;> first | exact h.elim | exact ⟨_, h⟩ | exact ⟨_, h.1⟩ | (obtain ⟨⟨p, q, hc, -⟩, -⟩ := h; exact ⟨_, hc⟩) | (obtain ⟨⟨x, hc, -⟩, -⟩ := h; exact ⟨_, hc⟩) | exact absurd rfl hk

/-- '{ v := s.F; dst = ..(dst, v) }'. -/
theorem appF_leaf {ver : Int} {flex : Bool} {s v t1 T k U off r ty1 ty2 ty3 ty4 ty5 lo' t' : Nat} {p1 p2 p3 p4 p5 : String} {e1 e2 e3 e4 e5 : Array Edge} {c : Code} {lf : Leaf}
    (hk : KOK N lo t K) (hs : s ≠ 1 ∧ s < lo) (hT : FieldAt P T k off) (hU : OneCell P U) (hD : Dims N nt lo t) (hd : t ≤ t1 ∧ t1 + 3 < nt ∧ lo ≤ v ∧ v < N ∧ v < lo' ∧ lo ≤ lo' ∧ t ≤ t') (hlf : lf ≠ .uuid)
    (h : AppL P N nt ver flex K lo' t' v c lf) :
    AppF RT P N nt ver flex K lo t s ((Code.region r #[⟨some t1, .move (.tmp s), ty1, p1, e1, none⟩, ⟨some (t1 + 1), .nilCheck (.tmp t1), ty2, p2, e2, none⟩, ⟨some (t1 + 2), .fieldAddr T (.tmp (t1 + 1)) k, ty3, p3, e3, none⟩,
      ⟨some (t1 + 3), .load U (.tmp (t1 + 2)), ty4, p4, e4, none⟩, ⟨some v, .assign (.tmp (t1 + 3)), ty5, p5, e5, none⟩] false).seq c) off (.leaf lf) := by
  intro w0 b o gv hrep a w bs Q hst hh hl hq
  obtain ⟨x, hc⟩ := RepLeaf.hasCell hrep hlf
  obtain ⟨d1, d2, d3, d4, d5, d6, d7⟩ := hd
  refine wp_seq (reg_load (x0 := nt) (lo := lo) hT hU hst.size hh.head (x := x) (by rw [Addr.add_lit]; exact hst.cell hc) ⟨hD.dT, d1, d2, d3, d4⟩ fun a' hfr0 hx => ?_)
  have hfr := hfr0.to1 hD
  refine h w0 b (o + off) x gv hrep hc a' w bs _ (hst.fr hfr0 hD) ((hh.tail.fr hk hfr).cons hx) hl fun a2 w2 hs2 hf2 => hq a2 w2 hs2 (hfr.trans (hf2.mono d6 d7))


/-- A field, where the version has it. -/
def AppFV (RT : RTags) (P : Program) (N nt : Nat) (ver : Int) (flex : Bool) (K : Slots) (lo t s : Nat) (c : Code) (off : Nat) (vlo : Int) (vhi : Option Int) (f : Sch) : Prop :=
  ∀ (w0 : World) (b o : Nat) (v : GV), (hasV vlo vhi ver = true → Rep RT [] w0 ver flex f b (o + off) v) → App P N nt w0 ((s, .pointer (some ⟨b, o, none⟩)) :: K) lo t c (if hasV vlo vhi ver then ap ver flex f v else [])
theorem appFV_always {ver : Int} {flex : Bool} {s off : Nat} {vlo : Int} {vhi : Option Int} {c : Code} {f : Sch} (hv : hasV vlo vhi ver = true) (h : AppF RT P N nt ver flex K lo t s c off f) : AppFV RT P N nt ver flex K lo t s c off vlo vhi f :=
  fun w0 b o v hr => (h w0 b o v (hr hv)).of_eq (by rw [if_pos hv])
theorem app_if {a : Act} {w : World} {bs : List UInt8} {Q : Exit → Act → World → Prop} {c : Code} {new : List UInt8} {x : Nat} {b : Bool} (hx : aget a x = .bool b) (hst : St nt w0 a w bs) (hh : Holds K a) (hl : bs.length + (if b then new else []).length ≤ lim)
    (h : b = true → App P N nt w0 K lo t c new) (hq : ∀ a' w', St nt w0 a' w' (bs ++ if b then new else []) → Fr N lo t 1 a a' → Q .normal a' w') : (Code.cond (.tmp x) c .skip).wp P Q a w := by
  cases b
  · refine wp_cond_false hx (wp_skip (hq a w (by simpa using hst) (Fr.refl ..)))
  · exact wp_cond_true hx (h rfl a w bs Q hst hh hl hq)
theorem appFV_ge {ver : Int} {flex : Bool} {s off sv t1 r ty1 ty2 T U : Nat} {p1 p2 : String} {e1 e2 : Array Edge} {n : Int} {c : Code} {f : Sch} (hk : KOK N lo t K) (hs : s ≠ 1 ∧ s < lo) (hsv : (sv, Value.int .i16 ver) ∈ K) (hD : Dims N nt lo t) (hd : t ≤ t1 ∧ t1 + 1 < nt)
    (h : AppF RT P N nt ver flex K lo t s c off f) :
    AppFV RT P N nt ver flex K lo t s ((Code.region r #[⟨some t1, .move (.tmp sv), ty1, p1, e1, none⟩, ⟨some (t1 + 1), .binOp .geq T (.tmp t1) (.const (.int .i16 n)) U, ty2, p2, e2, none⟩] false).seq (.cond (.tmp (t1 + 1)) c .skip)) off n none f := by
  intro w0 b o v hr a w bs Q hst hh hl hq
  refine wp_seq (reg_cmp (x0 := nt) (lo := lo) (b := hasV n none ver) hst.size (hh.tail _ hsv) ⟨hD.dT, hd.1, hd.2, hD.dLo⟩ (fun w => by rw [run_cmp_i16]; simp [hasV]) fun a' hfr0 hx => ?_)
  have hfr := hfr0.to1 hD
  exact app_if hx (hst.fr hfr0 hD) (hh.fr (hk.cons ⟨hs.1, .inl hs.2⟩) hfr) hl (fun hb => h w0 b o v (hr hb)) fun a2 w2 hs2 hf2 => hq a2 w2 hs2 (hfr.trans hf2)
theorem appFV_range {ver : Int} {flex : Bool} {s off sv t1 r ty1 ty2 ty3 ty4 ty5 ty6 T U T' U' : Nat} {p1 p2 p3 p4 p5 p6 : String} {e1 e2 e3 e4 e5 e6 : Array Edge} {n m : Int} {c : Code} {f : Sch} (hk : KOK N lo t K) (hs : s ≠ 1 ∧ s < lo) (hsv : (sv, Value.int .i16 ver) ∈ K) (hsl : sv < t1) (hD : Dims N nt lo t) (hd : t ≤ t1 ∧ t1 + 5 < nt)
    (h : AppF RT P N nt ver flex K lo t s c off f) :
    AppFV RT P N nt ver flex K lo t s ((Code.region r #[⟨some t1, .move (.tmp sv), ty1, p1, e1, none⟩, ⟨some (t1 + 1), .binOp .geq T (.tmp t1) (.const (.int .i16 n)) U, ty2, p2, e2, none⟩, ⟨some (t1 + 2), .move (.tmp (t1 + 1)), ty3, p3, e3, none⟩,
      ⟨some (t1 + 3), .move (.tmp sv), ty4, p4, e4, some (2, true)⟩, ⟨some (t1 + 4), .binOp .leq T' (.tmp (t1 + 3)) (.const (.int .i16 m)) U', ty5, p5, e5, some (2, true)⟩,
      ⟨some (t1 + 5), .pick (.tmp (t1 + 2)) (.tmp (t1 + 4)) (.const (.bool false)), ty6, p6, e6, none⟩] false).seq (.cond (.tmp (t1 + 5)) c .skip)) off n (some m) f := by
  intro w0 b o v hr a w bs Q hst hh hl hq
  refine wp_seq (reg_range (x0 := nt) (lo := lo) hst.size (hh.tail _ hsv) ⟨hD.dT, hd.1, hd.2, hD.dLo, by omega, by omega, by omega⟩ fun a' hfr0 hx => ?_)
  have hfr := hfr0.to1 hD
  exact app_if hx (hst.fr hfr0 hD) (hh.fr (hk.cons ⟨hs.1, .inl hs.2⟩) hfr) hl (fun hb => h w0 b o v (hr hb)) fun a2 w2 hs2 hf2 => hq a2 w2 hs2 (hfr.trans hf2)

theorem appS_cons {ver : Int} {flex : Bool} {s off : Nat} {vlo : Int} {vhi : Option Int} {c1 c2 : Code} {f rest : Sch} (hk : KOK N lo t K) (hs : s ≠ 1 ∧ s < lo) (h1 : AppFV RT P N nt ver flex K lo t s c1 off vlo vhi f) (h2 : AppS RT P N nt ver flex K lo t s c2 rest) :
    AppS RT P N nt ver flex K lo t s (c1.seq c2) (.cons off vlo vhi f rest) := by
  intro w0 b o v hr
  cases v <;> simp only [Rep] at hr <;> try exact hr.elim
  rename_i v vs
  exact App.seq (hk.cons ⟨hs.1, .inl hs.2⟩) (h1 w0 b o v hr.1) (h2 w0 b o vs hr.2)
theorem appS_last {ver : Int} {flex : Bool} {s off : Nat} {vlo : Int} {vhi : Option Int} {c1 : Code} {f : Sch} (h1 : AppFV RT P N nt ver flex K lo t s c1 off vlo vhi f) : AppS RT P N nt ver flex K lo t s c1 (.cons off vlo vhi f .done) := by
  intro w0 b o v hr
  cases v <;> simp only [Rep] at hr <;> try exact hr.elim
  rename_i v vs
  refine (h1 w0 b o v hr.1).of_eq ?_
  cases vs <;> simp [ap]

/-- A part within a part. -/
theorem appF_sub {ver : Int} {flex : Bool} {s v t1 T k off r ty1 ty2 ty3 ty4 lo' t' : Nat} {p1 p2 p3 p4 : String} {e1 e2 e3 e4 : Array Edge} {c : Code} {f : Sch}
    (hk : KOK N lo t K) (hT : FieldAt P T k off) (hD : Dims N nt lo t) (hd : t ≤ t1 ∧ t1 + 2 < nt ∧ lo ≤ v ∧ v < N ∧ v < lo' ∧ lo ≤ lo' ∧ t ≤ t')
    (h : AppS RT P N nt ver flex K lo' t' v c f) :
    AppF RT P N nt ver flex K lo t s ((Code.region r #[⟨some t1, .move (.tmp s), ty1, p1, e1, none⟩, ⟨some (t1 + 1), .nilCheck (.tmp t1), ty2, p2, e2, none⟩, ⟨some (t1 + 2), .fieldAddr T (.tmp (t1 + 1)) k, ty3, p3, e3, none⟩,
      ⟨some v, .assign (.tmp (t1 + 2)), ty4, p4, e4, none⟩] false).seq c) off f := by
  intro w0 b o gv hrep a w bs Q hst hh hl hq
  obtain ⟨d1, d2, d3, d4, d5, d6, d7⟩ := hd
  refine wp_seq (reg_addr (x0 := nt) (lo := lo) hT hst.size hh.head ⟨hD.dT, d1, d2, d3, d4⟩ fun a' hfr0 hx => ?_)
  rw [Addr.add_lit] at hx
  have hfr := hfr0.to1 hD
  exact h w0 b (o + off) gv hrep a' w bs _ (hst.fr hfr0 hD) ((hh.tail.fr hk hfr).cons hx) hl fun a2 w2 hs2 hf2 => hq a2 w2 hs2 (hfr.trans (hf2.mono d6 d7))

/-- The count ahead of a list that has been loaded into slot u. -/
def AppLen (P : Program) (N nt : Nat) (flex : Bool) (K : Slots) (lo t u : Nat) (c : Code) (nul : Option Int) : Prop :=
  ∀ (w0 : World) (a : Option Addr) (n cap : Nat), n ≤ 2147483647 → (nul.isSome = false ∨ a.isSome = true) → App P N nt w0 ((u, .slice a n cap) :: K) lo t c (lenB flex n)
def AppNul (P : Program) (N nt : Nat) (flex : Bool) (K : Slots) (lo t u : Nat) (c : Code) : Prop :=
  ∀ (w0 : World), App P N nt w0 ((u, .slice none 0 0) :: K) lo t c (nulB flex)
/-- One thing of a list: slot u holds the list, slot i its place. -/
def AppEl (RT : RTags) (P : Program) (N nt : Nat) (ver : Int) (flex : Bool) (K : Slots) (lo t u i : Nat) (c : Code) (esz : Nat) (e : Sch) : Prop :=
  ∀ (w0 : World) (p q n cap k : Nat) (v : GV), k < n → p < w0.heap.size → Rep RT [] w0 ver flex e p (q + k * esz) v →
    App P N nt w0 ((i, .int .i64 k) :: (u, .slice (some ⟨p, q, none⟩) n cap) :: K) lo t c (ap ver flex e v)

/-- 'for i := range v { .. }' over a list that lies in slot u. -/
theorem app_range {ver : Int} {flex : Bool} {u i t2 t9 lo' t' r1 r2 r3 r4 B B' T E T2 U2 T3 U3 ty1 ty2 ty3 ty4 ty5 ty6 ty7 ty8 esz : Nat} {p1 p2 p3 p4 p5 p6 p7 p8 : String} {e1 e2 e3 e4 e5 e6 e7 e8 : Array Edge} {c : Code} {e : Sch} {l : List GV} {ad : Option Addr} {cap : Nat}
    (hk : KOK N lo t K) (hT : P.underlying T = some (.slice E)) (hD : Dims N nt lo t)
    (hd : t ≤ t2 ∧ t2 + 4 < nt ∧ u < lo ∧ u < i ∧ i < N ∧ i < lo' ∧ lo ≤ i ∧ t2 + 4 < t' ∧ t' ≤ t9 ∧ t9 < nt ∧ u ≠ 1 ∧ u < N ∧ lo ≤ lo' ∧ lo' ≤ N) (hB : B ≠ B')
    (hl0 : l.length ≤ 2147483647) (hrep : l ≠ [] → ∃ p q, ad = some ⟨p, q, none⟩ ∧ p < w0.heap.size ∧ ∀ i v, l[i]? = some v → Rep RT [] w0 ver flex e p (q + i * esz) v)
    (h : AppEl RT P N nt ver flex K lo' t' u i c esz e) :
    App P N nt w0 ((u, .slice ad l.length cap) :: K) lo t
      ((Code.region r1 #[⟨some t2, .move (.tmp u), ty1, p1, e1, none⟩, ⟨some (t2 + 1), .call { callee := .builtin .len, args := #[.tmp t2], argTypes := #[T] }, ty2, p2, e2, none⟩, ⟨some (t2 + 2), .move (.const (.int .i64 0)), ty3, p3, e3, none⟩] false).seq
        (.block B (.loop ((Code.region r2 #[⟨some (t2 + 3), .binOp .lss T2 (.tmp (t2 + 2)) (.tmp (t2 + 1)) U2, ty4, p4, e4, none⟩] false).seq ((Code.cond (.tmp (t2 + 3)) .skip (.exit B)).seq
          ((Code.block B' ((Code.region r3 #[⟨some (t2 + 4), .move (.tmp (t2 + 2)), ty5, p5, e5, none⟩, ⟨some i, .assign (.tmp (t2 + 4)), ty6, p6, e6, none⟩] false).seq c)).seq
            (.region r4 #[⟨some t9, .binOp .add T3 (.tmp (t2 + 2)) (.const (.int .i64 1)) U3, ty7, p7, e7, none⟩, ⟨some (t2 + 2), .move (.tmp t9), ty8, p8, e8, none⟩] false)))))))
      (l.flatMap (ap ver flex e)) := by
  intro a w bs Q hst hh hl hq
  obtain ⟨d1, d2, d3, d4, d5, d6, d7, d8, d9, d10, d11, d12, d13, d14⟩ := hd
  have hN := hst.size
  have g1 := hD.dOne; have g2 := hD.dLo; have g3 := hD.dT; have g4 := hD.dN
  refine wp_seq (wp_reg ?_)
  refine wl_move hh.head ?_
  refine wl_len_slice hT (aget_put_same _ _ _ (by (first | rw [hN] | simp only [size_put, hN]); omega)) ?_
  refine wl_move_c ?_
  refine wpList_nil ?_
  generalize ha1 : Act.put (Act.put (Act.put a (some t2) (.slice ad l.length cap)) (some (t2 + 1)) (.int .i64 l.length)) (some (t2 + 2)) (.int .i64 0) = a1
  have hf1 : Fr N lo t nt a a1 := by rw [← ha1]; exact (((Fr.refl N lo t nt a).put _ _ (by omega)).put _ _ (by omega)).put _ _ (by omega)
  have hn1 : aget a1 (t2 + 1) = .int .i64 l.length := by rw [← ha1, aget_put_other _ _ _ _ (by omega)]; exact aget_put_same _ _ _ (by (first | rw [hN] | simp only [size_put, hN]); omega)
  have hi1 : aget a1 (t2 + 2) = .int .i64 0 := by rw [← ha1]; exact aget_put_same _ _ _ (by (first | rw [hN] | simp only [size_put, hN]); omega)
  have hu1 : aget a1 u = .slice ad l.length cap := by rw [← ha1, aget_put_other _ _ _ _ (by omega), aget_put_other _ _ _ _ (by omega), aget_put_other _ _ _ _ (by omega)]; exact hh.head
  clear ha1
  have hst1 := hst.fr hf1 hD
  have hK1 : Holds K a1 := hh.tail.fr hk (hf1.to1 hD)
  refine wp_block ?_
  refine wp_loop (fun a' w' => ∃ k, k ≤ l.length ∧ St nt w0 a' w' (bs ++ (l.take k).flatMap (ap ver flex e)) ∧ aget a' (t2 + 2) = .int .i64 k ∧ aget a' (t2 + 1) = .int .i64 l.length ∧ aget a' u = .slice ad l.length cap ∧ Fr N lo t 1 a1 a')
    (fun a' _ => l.length - (intOf (aget a' (t2 + 2))).toNat) ⟨0, Nat.zero_le _, by simpa using hst1, hi1, hn1, hu1, Fr.refl ..⟩ ?_
  rintro a2 w2 ⟨k, hk1, hst2, hi2, hn2, hu2, hf2⟩
  have hN2 := hst2.size
  refine wp_seq (wp_reg ?_)
  refine wl_bin2 (r := .bool (decide ((k : Int) < l.length))) hi2 hn2 (eqGuard_at_int ..) (by simp [binOp, Op.intCmp]) ?_
  refine wpList_nil ?_
  generalize ha3 : Act.put a2 (some (t2 + 3)) (.bool (decide ((k : Int) < l.length))) = a3
  have hx3 : aget a3 (t2 + 3) = .bool (decide ((k : Int) < l.length)) := by rw [← ha3]; exact aget_put_same _ _ _ (by omega)
  have hf3 : Fr N lo t nt a2 a3 := by rw [← ha3]; exact (Fr.refl N lo t nt a2).put _ _ (by omega)
  have hi3 : aget a3 (t2 + 2) = .int .i64 k := by rw [← ha3, aget_put_other _ _ _ _ (by omega)]; exact hi2
  have hn3 : aget a3 (t2 + 1) = .int .i64 l.length := by rw [← ha3, aget_put_other _ _ _ _ (by omega)]; exact hn2
  have hu3 : aget a3 u = .slice ad l.length cap := by rw [← ha3, aget_put_other _ _ _ _ (by omega)]; exact hu2
  clear ha3
  have hst3 := hst2.fr hf3 hD
  have hN3 := hst3.size
  by_cases hlt : k < l.length
  · have hdec : decide ((k : Int) < l.length) = true := by simp; omega
    rw [hdec] at hx3
    refine wp_seq (wp_cond_true hx3 (wp_skip ?_))
    refine wp_seq (wp_block ?_)
    refine wp_seq (wp_reg ?_)
    refine wl_move hi3 ?_
    refine wl_assign (aget_put_same _ _ _ (by omega)) ?_
    refine wpList_nil ?_
    generalize ha4 : Act.put (Act.put a3 (some (t2 + 4)) (.int .i64 k)) (some i) (.int .i64 k) = a4
    have hf4 : Fr N lo t nt a3 a4 := by rw [← ha4]; exact ((Fr.refl N lo t nt a3).put _ _ (by omega)).put _ _ (by omega)
    have hx4 : aget a4 i = .int .i64 k := by rw [← ha4]; exact aget_put_same _ _ _ (by simp only [size_put]; omega)
    have hi4 : aget a4 (t2 + 2) = .int .i64 k := by rw [← ha4, aget_put_other _ _ _ _ (by omega), aget_put_other _ _ _ _ (by omega)]; exact hi3
    have hn4 : aget a4 (t2 + 1) = .int .i64 l.length := by rw [← ha4, aget_put_other _ _ _ _ (by omega), aget_put_other _ _ _ _ (by omega)]; exact hn3
    have hu4 : aget a4 u = .slice ad l.length cap := by rw [← ha4, aget_put_other _ _ _ _ (by omega), aget_put_other _ _ _ _ (by omega)]; exact hu3
    clear ha4
    have hst4 := hst3.fr hf4 hD
    obtain ⟨p, q, rfl, hp, hel⟩ := hrep (fun e => by rw [e] at hlt; simp at hlt)
    have hsp : l.flatMap (ap ver flex e) = (l.take k).flatMap (ap ver flex e) ++ (ap ver flex e l[k] ++ (l.drop (k + 1)).flatMap (ap ver flex e)) := by
      conv => lhs; rw [← List.take_append_drop k l, List.flatMap_append, List.drop_eq_getElem_cons hlt, List.flatMap_cons]
    have hsn : (l.take (k + 1)).flatMap (ap ver flex e) = (l.take k).flatMap (ap ver flex e) ++ ap ver flex e l[k] := by
      rw [List.take_succ_eq_append_getElem hlt, List.flatMap_append, List.flatMap_cons, List.flatMap_nil, List.append_nil]
    refine h w0 p q l.length cap k l[k] hlt hp (hel k l[k] (List.getElem?_eq_getElem hlt)) a4 w2 _ _ hst4 (((hK1.fr hk (hf2.trans ((hf3.to1 hD).trans (hf4.to1 hD)))).cons hu4).cons hx4) ?_ fun a5 w5 hst5 hf5 => ?_
    · rw [hsp] at hl
      simp only [List.length_append] at hl ⊢
      omega
    have hi5 : aget a5 (t2 + 2) = .int .i64 k := (hf5.same _ (by omega) (.inr ⟨by omega, by omega⟩)).trans hi4
    have hn5 : aget a5 (t2 + 1) = .int .i64 l.length := (hf5.same _ (by omega) (.inr ⟨by omega, by omega⟩)).trans hn4
    have hu5 : aget a5 u = .slice (some ⟨p, q, none⟩) l.length cap := (hf5.same _ (by omega) (.inl (by omega))).trans hu4
    have hN5 := hst5.size
    simp only [Exit.inBlock, Exit.then]
    refine wp_reg ?_
    refine wl_bin (r := .int .i64 ((k + 1 : Nat) : Int)) hi5 (eqGuard_at_int ..) ?_ ?_
    · simp only [binOp, Op.intArith]
      simp
      have : IntKind.i64.wrap ((k : Int) + 1) = (k : Int) + 1 := by
        rw [IntKind.wrap_i64]
        omega
      rw [this]
    refine wl_move (aget_put_same _ _ _ (by omega)) ?_
    refine wpList_nil ?_
    have hf6 : Fr N lo t nt a5 ((a5.put (some t9) (.int .i64 ((k + 1 : Nat) : Int))).put (some (t2 + 2)) (.int .i64 ((k + 1 : Nat) : Int))) := ((Fr.refl N lo t nt a5).put _ _ (by omega)).put _ _ (by omega)
    refine ⟨⟨k + 1, by omega, ?_, aget_put_same _ _ _ (by simp only [size_put]; omega), ?_, ?_, ?_⟩, ?_⟩
    · rw [hsn, ← List.append_assoc]
      exact hst5.fr hf6 hD
    · rw [aget_put_other _ _ _ _ (by omega), aget_put_other _ _ _ _ (by omega)]; exact hn5
    · rw [aget_put_other _ _ _ _ (by omega), aget_put_other _ _ _ _ (by omega)]; exact hu5
    · exact hf2.trans ((hf3.to1 hD).trans ((hf4.to1 hD).trans ((hf5.mono (by omega) (by omega)).trans (hf6.to1 hD))))
    · rw [aget_put_same _ _ _ (by simp only [size_put]; omega), hi2]
      simp [intOf]
      omega
  · have hdec : decide ((k : Int) < l.length) = false := by simp; omega
    rw [hdec] at hx3
    have hke : k = l.length := by omega
    refine wp_seq (wp_cond_false hx3 (wp_exit ?_))
    simp only [Exit.then, Exit.inBlock, if_true]
    refine hq a3 w2 ?_ ((hf1.to1 hD).trans (hf2.trans (hf3.to1 hD)))
    rw [hke, List.take_length] at hst2
    exact hst2.fr hf3 hD
end
end Go.Proofs.YtmpilpgabelmiaaGreatDoor

/- Reading into memory: the reader, the part that is being filled, what stays. -/
namespace Go.Proofs.YtmpilpgabelmiaaGreatDoor
open Go Go.RowKit

/-- The reader in block rb: what is left, or that it has run out. -/
def Rdr (O : List Nat) (w : World) (rb : Nat) : Option (List UInt8) → Prop
  | none => Blk w rb [.slice none 0 0, .bool true] 110
  | some bs => ∃ sv, Blk w rb [sv, .bool false] 110 ∧ RB O w sv bs ∧ bs.length ≤ lim
theorem Rdr.blk {O : List Nat} {w : World} {rb : Nat} {st : Option (List UInt8)} (h : Rdr O w rb st) : ∃ sv, Blk w rb [sv, .bool st.isNone] 110 := by
  cases st with
  | none => exact ⟨_, h⟩
  | some bs => obtain ⟨sv, h, -⟩ := h; exact ⟨sv, h⟩
theorem Rdr.other {O O' : List Nat} {w w' : World} {rb : Nat} {st : Option (List UInt8)} (h : Rdr O w rb st) (hk : Keeps O' w w') (hrb : rb ∉ O') (hO : ∀ k, k ∈ O' → k ∈ O) : Rdr O w' rb st := by
  cases st with
  | none => exact Blk.keeps h hk hrb
  | some bs =>
    obtain ⟨sv, h, hr, hl⟩ := h
    exact ⟨sv, h.keeps hk hrb, hr.keeps (hk.mono hO), hl⟩
theorem Rdr.open {O : List Nat} {w : World} {rb n : Nat} {st : Option (List UInt8)} (h : Rdr O w rb st) (hn : w.heap.size ≤ n) : Rdr (n :: O) w rb st := by
  cases st with
  | none => exact h
  | some bs =>
    obtain ⟨sv, h, hr, hl⟩ := h
    exact ⟨sv, h, hr.openNew hn, hl⟩
theorem Rdr.mono {O O' : List Nat} {w : World} {rb : Nat} {st : Option (List UInt8)} (h : Rdr O w rb st) (hO : ∀ k, k ∈ O' → k ∈ O) : Rdr O' w rb st := by
  cases st with
  | none => exact h
  | some bs =>
    obtain ⟨sv, h, hr, hl⟩ := h
    exact ⟨sv, h, hr.mono hO, hl⟩

/-- A value of a kind, as it stands in a slot ahead of its store. -/
def LV (O : List Nat) (w : World) (flex : Bool) (x : Value) : Leaf → GV → Prop
  | .i8, .int n => x = .int .i8 n ∧ -128 ≤ n ∧ n ≤ 127
  | .i16, .int n => x = .int .i16 n ∧ -32768 ≤ n ∧ n ≤ 32767
  | .i32, .int n => x = .int .i32 n ∧ -2147483648 ≤ n ∧ n ≤ 2147483647
  | .i64, .int n => x = .int .i64 n
  | .u16, .int n => x = .int .u16 n ∧ 0 ≤ n ∧ n ≤ 65535
  | .bool, .bool b => x = .bool b
  | .str, .bytes l => x = .string ⟨l.toArray⟩ ∧ l.length ≤ strMax flex
  | .nstr, .null => x = .pointer none
  | .nstr, .bytes l => (∃ p q, x = .pointer (some ⟨p, q, none⟩) ∧ p ∉ O ∧ w.cell? ⟨p, q, none⟩ = some (.string ⟨l.toArray⟩)) ∧ l.length ≤ strMax flex
  | .nstrFrom _, .null => x = .pointer none
  | .nstrFrom _, .bytes l => (∃ p q, x = .pointer (some ⟨p, q, none⟩) ∧ p ∉ O ∧ w.cell? ⟨p, q, none⟩ = some (.string ⟨l.toArray⟩)) ∧ l.length ≤ strMax flex
  | .bytes, .bytes l => RB O w x l ∧ l.length ≤ bMax flex
  | _, _ => False
theorem LV.keeps {O : List Nat} {w w' : World} {flex : Bool} {x : Value} {k : Leaf} {v : GV} (h : LV O w flex x k v) (hk : Keeps O w w') : LV O w' flex x k v := by
  cases k <;> cases v <;> simp only [LV] at h ⊢ <;> try exact h
  · obtain ⟨⟨p, q, h1, h2, h3⟩, h4⟩ := h
    exact ⟨⟨p, q, h1, h2, (World.cell?_of_block (hk.block p (World.block_lt_of_cell? w _ h3) h2)).trans h3⟩, h4⟩
  · exact ⟨h.1.keeps hk, h.2⟩
  · obtain ⟨⟨p, q, h1, h2, h3⟩, h4⟩ := h
    exact ⟨⟨p, q, h1, h2, (World.cell?_of_block (hk.block p (World.block_lt_of_cell? w _ h3) h2)).trans h3⟩, h4⟩
theorem LV.rep {O : List Nat} {w : World} {flex : Bool} {x : Value} {k : Leaf} {v : GV} {b o : Nat} (h : LV O w flex x k v) (hc : w.cell? ⟨b, o, none⟩ = some x) : RepLeaf O w flex b o k v := by
  cases k <;> cases v <;> simp only [LV] at h <;> try exact h.elim
  · obtain ⟨rfl, h1, h2⟩ := h; exact ⟨hc, h1, h2⟩
  · obtain ⟨rfl, h1, h2⟩ := h; exact ⟨hc, h1, h2⟩
  · obtain ⟨rfl, h1, h2⟩ := h; exact ⟨hc, h1, h2⟩
  · subst h; exact hc
  · obtain ⟨rfl, h1, h2⟩ := h; exact ⟨hc, h1, h2⟩
  · subst h; exact hc
  · obtain ⟨rfl, h1⟩ := h; exact ⟨hc, h1⟩
  · obtain ⟨⟨p, q, rfl, h2, h3⟩, h4⟩ := h
    exact ⟨⟨p, q, hc, h2, h3⟩, h4⟩
  · subst h; exact hc
  · exact ⟨⟨x, hc, h.1⟩, h.2⟩
  · obtain ⟨⟨p, q, rfl, h2, h3⟩, h4⟩ := h
    exact ⟨⟨p, q, hc, h2, h3⟩, h4⟩
  · subst h; exact hc

/-- Behind its last cell. -/
def top : Sch → Nat
  | .leaf .uuid => 16
  | .leaf _ => 1
  | .list _ _ _ => 1
  | .opt _ => 1
  | .done => 0
  | .tags off => off + 1
  | .cons off _ _ f rest => max (off + top f) (top rest)
  | .ktag off _ f rest => max (off + top f) (top rest)
/-- A known tag's field as it is by default, in cells. -/
def dcells : Sch → Int → List Value
  | .leaf .i16, d => [.int .i16 d]
  | .leaf .i64, d => [.int .i64 d]
  | .leaf .uuid, _ => List.replicate 16 (.int .u8 0)
  | .leaf .nstr, _ => [.pointer none]
  | .list _ _ _, _ => [.slice none 0 0]
  | _, _ => []
theorem dcells_le (f : Sch) (d : Int) : (dcells f d).length ≤ top f := by
  cases f with
  | leaf k => cases k <;> simp [dcells, top]
  | list _ _ _ => simp [dcells, top]
  | _ => simp [dcells]
def FreshD (c : List Value) (o : Nat) (d : Int) (f : Sch) : Prop := ∀ (i : Nat) (u : Value), (dcells f d)[i]? = some u → c[o + i]? = some u
/-- The cells of a part, as they are before it is read. -/
def Fresh (c : List Value) (o : Nat) : Sch → Prop
  | .leaf .uuid => o + 16 ≤ c.length
  | .leaf _ => o < c.length
  | .list _ _ _ => c[o]? = some (.slice none 0 0)
  | .opt _ => c[o]? = some (.pointer none)
  | .done => True
  | .tags off => c[o + off]? = some (.map none)
  | .cons off _ _ f rest => Fresh c (o + off) f ∧ Fresh c o rest
  | .ktag off d f rest => FreshD c (o + off) d f ∧ Fresh c o rest
/-- A field that is no part within the part. -/
def single : Sch → Bool
  | .leaf _ => true
  | .list _ _ _ => true
  | .opt _ => true
  | _ => false
/-- Behind the fields of known tags that lie ahead of all others. -/
def lowTop : Sch → Nat
  | .cons _ _ _ _ rest => lowTop rest
  | .ktag off _ f rest => max (if off ≤ 1 then off + top f else 0) (lowTop rest)
  | _ => 0
/-- A part whose fields lie one behind the other, from cell n on (but for known tags'). -/
def ord : Nat → Sch → Bool
  | _, .done => true
  | n, .tags off => decide (n ≤ off)
  | n, .cons off _ _ f rest => (decide (n ≤ off) && decide (lowTop rest ≤ off)) && (single f || ord 0 f) && ord (off + top f) rest
  | n, .ktag off _ _ rest => (decide (n ≤ off) || decide (off ≤ 1)) && ord n rest
  | _, _ => false
/-- Only the cells from i on, below j, have turned. -/
structure SameOut (c c' : List Value) (i j : Nat) : Prop where
  length : c'.length = c.length
  out : ∀ k, k < i ∨ j ≤ k → c'[k]? = c[k]?
theorem SameOut.refl (c : List Value) (i j : Nat) : SameOut c c i j := ⟨rfl, fun _ _ => rfl⟩
theorem SameOut.trans {c c' c'' : List Value} {i j i' j' : Nat} (h : SameOut c c' i j) (h' : SameOut c' c'' i' j') {m n : Nat} (h1 : m ≤ i ∧ m ≤ i') (h2 : j ≤ n ∧ j' ≤ n) : SameOut c c'' m n :=
  ⟨h'.length.trans h.length, fun k hk => (h'.out k (by omega)).trans (h.out k (by omega))⟩
theorem SameOut.mono {c c' : List Value} {i j m n : Nat} (h : SameOut c c' i j) (h1 : m ≤ i) (h2 : j ≤ n) : SameOut c c' m n := ⟨h.length, fun k hk => h.out k (by omega)⟩
theorem SameOut.set (c : List Value) (i : Nat) (v : Value) : SameOut c (c.set i v) i (i + 1) := ⟨by simp, fun k hk => by rw [List.getElem?_set_ne (by omega)]⟩
theorem Fresh.same : ∀ {s : Sch} {c c' : List Value} {o i j : Nat}, Fresh c o s → SameOut c c' i j → (o + top s ≤ i ∨ j ≤ o) → Fresh c' o s
  | .leaf k, c, c', o, i, j, h, hs, hd => by cases k <;> simp only [Fresh] at h ⊢ <;> (rw [hs.length]; exact h)
  | .list _ _ _, c, c', o, i, j, h, hs, hd => by simp only [top] at hd; exact (hs.out o (by omega)).trans h
  | .opt _, c, c', o, i, j, h, hs, hd => by simp only [top] at hd; exact (hs.out o (by omega)).trans h
  | .done, _, _, _, _, _, _, _, _ => trivial
  | .tags off, c, c', o, i, j, h, hs, hd => by simp only [top] at hd; exact (hs.out (o + off) (by omega)).trans h
  | .cons off lo hi f rest, c, c', o, i, j, h, hs, hd => by
    simp only [top] at hd
    exact ⟨Fresh.same h.1 hs (by omega), Fresh.same h.2 hs (by omega)⟩
  | .ktag off d f rest, c, c', o, i, j, h, hs, hd => by
    simp only [top] at hd
    refine ⟨fun k u hk => ?_, Fresh.same h.2 hs (by omega)⟩
    have h1 := (List.getElem?_eq_some_iff.1 hk).1
    have h2 := dcells_le f d
    exact (hs.out _ (by omega)).trans (h.1 k u hk)
/-- The same of fields from cell n on: what is below may turn. -/
theorem Fresh.behind : ∀ {s : Sch} {c c' : List Value} {o n i j : Nat}, Fresh c o s → SameOut c c' i j → ord n s = true → j ≤ o + n → o + lowTop s ≤ i → Fresh c' o s
  | .done, _, _, _, _, _, _, _, _, _, _, _ => trivial
  | .tags off, c, c', o, n, i, j, h, hs, ho, hj, _ => by
    simp only [ord, decide_eq_true_eq] at ho
    exact (hs.out (o + off) (by omega)).trans h
  | .cons off lo hi f rest, c, c', o, n, i, j, h, hs, ho, hj, hl => by
    simp only [ord, Bool.and_eq_true, decide_eq_true_eq] at ho
    simp only [lowTop] at hl
    exact ⟨Fresh.same h.1 hs (by omega), Fresh.behind h.2 hs ho.2 (by omega) hl⟩
  | .ktag off d f rest, c, c', o, n, i, j, h, hs, ho, hj, hl => by
    simp only [ord, Bool.and_eq_true, Bool.or_eq_true, decide_eq_true_eq] at ho
    simp only [lowTop] at hl
    refine ⟨fun k u hk => ?_, Fresh.behind h.2 hs ho.2 hj (by omega)⟩
    have h1 := (List.getElem?_eq_some_iff.1 hk).1
    have h2 := dcells_le f d
    refine (hs.out _ ?_).trans (h.1 k u hk)
    by_cases hn : n ≤ off
    · omega
    · have h3 : off ≤ 1 := ho.1.resolve_left hn
      rw [if_pos h3] at hl
      omega
  | .leaf _, _, _, _, _, _, _, _, _, ho, _, _ => by cases ho
  | .list _ _ _, _, _, _, _, _, _, _, _, ho, _, _ => by cases ho
  | .opt _, _, _, _, _, _, _, _, _, ho, _, _ => by cases ho

/-- What a reading of tags must bear: it stays where the open blocks alone turn. -/
def RTKeep (RT : RTags) : Prop := ∀ (O : List Nat) (w w' : World) (b o : Nat) (l : List (Nat × List UInt8)), RT O w b o l → Keeps O w w' → w'.cell? ⟨b, o, none⟩ = w.cell? ⟨b, o, none⟩ → RT O w' b o l
/-- Open blocks that are shut. -/
def RTMono (RT : RTags) : Prop := ∀ (O O' : List Nat) (w : World) (b o : Nat) (l : List (Nat × List UInt8)), RT O w b o l → (∀ k, k ∈ O' → k ∈ O) → RT O' w b o l
theorem RepLeaf.move {O : List Nat} {w w' : World} {flex : Bool} {k : Leaf} {b o : Nat} {v : GV} (h : RepLeaf O w flex b o k v) (hk : Keeps O w w') (hc : ∀ i, i < top (.leaf k) → w'.cell? ⟨b, o + i, none⟩ = w.cell? ⟨b, o + i, none⟩) : RepLeaf O w' flex b o k v := by
  have h0 : k ≠ .uuid → w'.cell? ⟨b, o, none⟩ = w.cell? ⟨b, o, none⟩ := fun hk => hc 0 (by cases k <;> first | exact absurd rfl hk | exact Nat.zero_lt_one)
  have hp : ∀ p q x, p ∉ O → w.cell? ⟨p, q, none⟩ = some x → w'.cell? ⟨p, q, none⟩ = some x := fun p q x h2 h3 => (World.cell?_of_block (hk.block p (World.block_lt_of_cell? w _ h3) h2)).trans h3
  cases k
  case uuid =>
    cases v <;> simp only [RepLeaf] at h ⊢ <;> try exact h
    refine ⟨h.1, fun i u hi => ?_⟩
    have hlt : i < 16 := by
      rw [← h.1]
      exact (List.getElem?_eq_some_iff.1 hi).1
    rw [hc i hlt]
    exact h.2 i u hi
  all_goals
    have h1 := h0 (fun h => nomatch h)
    cases v <;> simp only [RepLeaf, h1] at h ⊢ <;> try exact h
  · obtain ⟨⟨p, q, h1, h2, h3⟩, h4⟩ := h
    exact ⟨⟨p, q, h1, h2, hp p q _ h2 h3⟩, h4⟩
  · obtain ⟨⟨x, h1, h2⟩, h4⟩ := h
    exact ⟨⟨x, h1, h2.keeps hk⟩, h4⟩
  · obtain ⟨⟨p, q, h1, h2, h3⟩, h4⟩ := h
    exact ⟨⟨p, q, h1, h2, hp p q _ h2 h3⟩, h4⟩
theorem Rep.move {RT : RTags} (hRT : RTKeep RT) {O : List Nat} {w w' : World} {ver : Int} {flex : Bool} (hk : Keeps O w w') : ∀ {s : Sch} {b o : Nat} {v : GV}, Rep RT O w ver flex s b o v → (∀ i, i < top s → w'.cell? ⟨b, o + i, none⟩ = w.cell? ⟨b, o + i, none⟩) → Rep RT O w' ver flex s b o v
  | .leaf k, b, o, v, h, hc => RepLeaf.move h hk hc
  | .list nul z e, b, o, v, h, hc => by
    have h0 : w'.cell? ⟨b, o, none⟩ = w.cell? ⟨b, o, none⟩ := hc 0 Nat.zero_lt_one
    cases v <;> simp only [Rep, h0] at h ⊢ <;> try exact h
    obtain ⟨a, cap, h1, h2, h3, h4⟩ := h
    refine ⟨a, cap, h1, h2, h3, fun hne => ?_⟩
    obtain ⟨p, q, rfl, h5, h6, h7⟩ := h4 hne
    refine ⟨p, q, rfl, h5, Nat.lt_of_lt_of_le h6 hk.size, fun i v hi => Rep.move hRT hk (h7 i v hi) fun j _ => World.cell?_of_block (hk.block p h6 h5)⟩
  | .opt e, b, o, v, h, hc => by
    have h0 : w'.cell? ⟨b, o, none⟩ = w.cell? ⟨b, o, none⟩ := hc 0 Nat.zero_lt_one
    cases v <;> simp only [Rep, h0] at h ⊢ <;> try exact h
    all_goals
      obtain ⟨p, q, h1, h5, h6, h7⟩ := h
      exact ⟨p, q, h1, h5, Nat.lt_of_lt_of_le h6 hk.size, Rep.move hRT hk h7 fun j _ => World.cell?_of_block (hk.block p h6 h5)⟩
  | .done, b, o, v, h, hc => by cases v <;> simp only [Rep] at h ⊢
  | .tags off, b, o, v, h, hc => by
    cases v <;> simp only [Rep] at h ⊢
    exact hRT _ _ _ _ _ _ h hk (hc off (by simp [top]))
  | .cons off lo hi f rest, b, o, v, h, hc => by
    cases v <;> simp only [Rep] at h ⊢ <;> try exact h
    refine ⟨fun hv => Rep.move hRT hk (h.1 hv) fun i hi => ?_, Rep.move hRT hk h.2 fun i hi => hc i (by simp only [top]; omega)⟩
    rw [Nat.add_assoc]
    exact hc (off + i) (by simp only [top]; omega)
  | .ktag off d f rest, b, o, v, h, hc => by
    cases v <;> simp only [Rep] at h ⊢ <;> try exact h
    refine ⟨Rep.move hRT hk h.1 fun i hi => ?_, Rep.move hRT hk h.2.1 fun i hi => hc i (by simp only [top]; omega), h.2.2⟩
    rw [Nat.add_assoc]
    exact hc (off + i) (by simp only [top]; omega)
theorem RepLeaf.mono {O O' : List Nat} {w : World} {flex : Bool} {k : Leaf} {b o : Nat} {v : GV} (hO : ∀ k, k ∈ O' → k ∈ O) (h : RepLeaf O w flex b o k v) : RepLeaf O' w flex b o k v := by
  cases k <;> cases v <;> simp only [RepLeaf] at h ⊢ <;> try exact h
  · obtain ⟨⟨p, q, h1, h2, h3⟩, h4⟩ := h
    exact ⟨⟨p, q, h1, fun x => h2 (hO p x), h3⟩, h4⟩
  · obtain ⟨⟨x, h1, h2⟩, h4⟩ := h
    exact ⟨⟨x, h1, h2.mono hO⟩, h4⟩
  · obtain ⟨⟨p, q, h1, h2, h3⟩, h4⟩ := h
    exact ⟨⟨p, q, h1, fun x => h2 (hO p x), h3⟩, h4⟩
theorem Rep.mono {RT : RTags} (hRT : RTMono RT) {O O' : List Nat} {w : World} {ver : Int} {flex : Bool} (hO : ∀ k, k ∈ O' → k ∈ O) : ∀ {s : Sch} {b o : Nat} {v : GV}, Rep RT O w ver flex s b o v → Rep RT O' w ver flex s b o v
  | .leaf k, b, o, v, h => RepLeaf.mono hO h
  | .list nul z e, b, o, v, h => by
    cases v <;> simp only [Rep] at h ⊢ <;> try exact h
    obtain ⟨a, cap, h1, h2, h3, h4⟩ := h
    refine ⟨a, cap, h1, h2, h3, fun hne => ?_⟩
    obtain ⟨p, q, rfl, h5, h6, h7⟩ := h4 hne
    exact ⟨p, q, rfl, fun x => h5 (hO p x), h6, fun i v hi => Rep.mono hRT hO (h7 i v hi)⟩
  | .opt e, b, o, v, h => by
    cases v <;> simp only [Rep] at h ⊢ <;> try exact h
    all_goals
      obtain ⟨p, q, h1, h5, h6, h7⟩ := h
      exact ⟨p, q, h1, fun x => h5 (hO p x), h6, Rep.mono hRT hO h7⟩
  | .done, b, o, v, h => by cases v <;> simp only [Rep] at h ⊢
  | .tags off, b, o, v, h => by
    cases v <;> simp only [Rep] at h ⊢
    exact hRT _ _ _ _ _ _ h hO
  | .cons off lo hi f rest, b, o, v, h => by
    cases v <;> simp only [Rep] at h ⊢ <;> try exact h
    exact ⟨fun hv => Rep.mono hRT hO (h.1 hv), Rep.mono hRT hO h.2⟩
  | .ktag off d f rest, b, o, v, h => by
    cases v <;> simp only [Rep] at h ⊢ <;> try exact h
    exact ⟨Rep.mono hRT hO h.1, Rep.mono hRT hO h.2.1, h.2.2⟩
theorem repTags_keep : RTKeep RepTags := by
  rintro O w w' b o l h hk hc
  rcases h with ⟨h1, h2⟩ | ⟨r, es, kvs, h1, h2, h3, h4, h5, h6, h7, h8⟩
  · exact .inl ⟨h1, hc.trans h2⟩
  · refine .inr ⟨r, es, kvs, hc.trans h1, h2, (hk.block r (Array.getElem?_eq_some_iff.1 h3).1 h2).trans h3, h4, fun i kv hi => ?_, h6, h7, h8⟩
    obtain ⟨e, e1, e2, e3, e4, e5, e6⟩ := h5 i kv hi
    exact ⟨e, e1, e2, e3, e4, e5.keeps hk, e6⟩
theorem repTags_mono : RTMono RepTags := by
  rintro O O' w b o l h hO
  rcases h with ⟨h1, h2⟩ | ⟨r, es, kvs, h1, h2, h3, h4, h5, h6, h7, h8⟩
  · exact .inl ⟨h1, h2⟩
  · refine .inr ⟨r, es, kvs, h1, fun x => h2 (hO r x), h3, h4, fun i kv hi => ?_, h6, h7, h8⟩
    obtain ⟨e, e1, e2, e3, e4, e5, e6⟩ := h5 i kv hi
    exact ⟨e, e1, e2, e3, e4, e5.mono hO, e6⟩
theorem Blk.same {w w' : World} {b T T' i j : Nat} {c c' : List Value} (h : Blk w b c T) (h' : Blk w' b c' T') (hs : SameOut c c' i j) (k : Nat) (hk : k < i ∨ j ≤ k) : w'.cell? ⟨b, k, none⟩ = w.cell? ⟨b, k, none⟩ := by
  rw [h.cell, h'.cell]
  exact hs.out k hk
end Go.Proofs.YtmpilpgabelmiaaGreatDoor

/- The reader's functions read just what the plain functions say. -/
namespace Go.Proofs.YtmpilpgabelmiaaGreatDoor
open Go Go.RowKit
set_option linter.unusedVariables false

/-- The ending of a function that reads by p from the state st on: V tells the value; D what is handed back where too little is left. -/
def RdPost {α : Type} (p : Pr α) (V : List Nat → World → Value → α → Prop) (D : Value → Prop) (O : List Nat) (rb : Nat) (w : World) (st : Option (List UInt8)) (e : Ending) (w' : World) : Prop :=
  ∃ v, e = .returned v ∧ Rdr O w' rb ((st.bind p).map (·.2)) ∧ Keeps [rb] w w' ∧ (st.bind p = none → D v) ∧ ∀ x r, st.bind p = some (x, r) → V O w' v x
/-- Function f, handed the reader, reads by p. -/
def RdC {α : Type} (P : Program) (f : Nat) (p : Pr α) (V : List Nat → World → Value → α → Prop) (D : Value → Prop) : Prop :=
  ∀ (O : List Nat) (rb : Nat) (w : World) (st : Option (List UInt8)), rb ∈ O → (∀ k, k ∈ O → k < w.heap.size) → Rdr O w rb st → Calls P f #[.pointer (some ⟨rb, 0, none⟩)] w (RdPost p V D O rb w st)
theorem RdPost.bad {α : Type} {p : Pr α} {V : List Nat → World → Value → α → Prop} {D : Value → Prop} {O : List Nat} {rb : Nat} {w w' : World} {st : Option (List UInt8)} {v : Value} (hst : st.bind p = none) (h : Rdr O w' rb none) (hk : Keeps [rb] w w') (hD : D v) : RdPost p V D O rb w st (.returned v) w' := by
  refine ⟨v, rfl, ?_, hk, fun _ => hD, fun x r hx => by rw [hst] at hx; cases hx⟩
  rw [hst]
  exact h
theorem RdPost.good {α : Type} {p : Pr α} {V : List Nat → World → Value → α → Prop} {D : Value → Prop} {O : List Nat} {rb : Nat} {w w' : World} {bs r : List UInt8} {v : Value} {x : α} (hst : p bs = some (x, r)) (h : Rdr O w' rb (some r) ∧ Keeps [rb] w w') (hV : V O w' v x) :
    RdPost p V D O rb w (some bs) (.returned v) w' := by
  refine ⟨v, rfl, ?_, h.2, (fun hx => by rw [show (some bs).bind p = _ from hst] at hx; cases hx), fun y r' hx => ?_⟩
  · rw [show (some bs).bind p = _ from hst]
    exact h.1
  · rw [show (some bs).bind p = _ from hst] at hx
    cases hx
    exact hV
theorem RdPost.good2 {α : Type} {p : Pr α} {V : List Nat → World → Value → α → Prop} {D : Value → Prop} {O : List Nat} {rb : Nat} {w w1 w' : World} {bs r : List UInt8} {v : Value} {x : α} (hst : p bs = some (x, r)) (hk : Keeps [rb] w w1)
    (h : Rdr O w' rb (some r) ∧ Keeps [rb] w1 w') (hV : V O w' v x) : RdPost p V D O rb w (some bs) (.returned v) w' := .good hst ⟨h.1, hk.trans h.2⟩ hV
theorem Rdr.parts {O : List Nat} {w : World} {rb : Nat} {bs : List UInt8} (h : Rdr O w rb (some bs)) : ∃ a cap, Blk w rb [.slice a bs.length cap, .bool false] 110 ∧ bs.length ≤ cap ∧ cap ≤ 9223372036854775807 ∧
    (bs ≠ [] → ∃ b o, a = some ⟨b, o, none⟩ ∧ b ∉ O ∧ ∀ i u, bs[i]? = some u → w.cell? ⟨b, o + i, none⟩ = some (byteV u)) ∧ bs.length ≤ lim := by
  obtain ⟨sv, h, ⟨a, cap, rfl, h1, h2, h3⟩, hl⟩ := h
  exact ⟨a, cap, h, h1, h2, h3, hl⟩
theorem Rdr.fail {O : List Nat} {w : World} {rb T : Nat} {x y : Value} (h : Blk w rb [x, y] 110) :
    Rdr O ((w.setCell ⟨rb, 1, none⟩ (.bool true)).setCell ⟨rb, 0, none⟩ (.slice none 0 0)) rb none ∧ Keeps [rb] w ((w.setCell ⟨rb, 1, none⟩ (.bool true)).setCell ⟨rb, 0, none⟩ (.slice none 0 0)) :=
  ⟨(h.set 1 (.bool true)).set 0 (.slice none 0 0), ((Keeps.refl [rb] w).setCell (List.mem_singleton.2 rfl) _).setCell (List.mem_singleton.2 rfl) _⟩
theorem RB.drop {O : List Nat} {w : World} {b o cap k : Nat} {bs : List UInt8} (h1 : bs.length ≤ cap) (h2 : cap ≤ 9223372036854775807) (hb : b ∉ O) (hc : ∀ i u, bs[i]? = some u → w.cell? ⟨b, o + i, none⟩ = some (byteV u)) (hk : k ≤ bs.length) {sv : Value}
    (hsv : sv = .slice (some ⟨b, o + k, none⟩) (bs.length - k) (cap - k) ∨ (cap = k ∧ sv = .slice (some ⟨b, o, none⟩) (bs.length - k) 0)) : RB O w sv (bs.drop k) := by
  rcases hsv with rfl | ⟨rfl, rfl⟩
  · refine ⟨some ⟨b, o + k, none⟩, cap - k, by rw [List.length_drop], by rw [List.length_drop]; omega, by omega, fun _ => ⟨b, o + k, rfl, hb, fun i u hi => ?_⟩⟩
    rw [List.getElem?_drop] at hi
    rw [Nat.add_assoc]
    exact hc _ _ hi
  · have e : bs.drop cap = [] := List.drop_eq_nil_of_le h1
    rw [e]
    refine ⟨some ⟨b, o, none⟩, 0, ?_, Nat.le_refl _, by omega, fun h => absurd rfl h⟩
    have : bs.length - cap = 0 := by omega
    rw [this]
    rfl
theorem Rdr.adv {O : List Nat} {w : World} {rb b o cap k : Nat} {x : Value} {bs : List UInt8} (hM : bs.length ≤ lim) (hrb : rb ∈ O) (h : Blk w rb [x, .bool false] 110) (h1 : bs.length ≤ cap) (h2 : cap ≤ 9223372036854775807) (hb : b ∉ O)
    (hc : ∀ i u, bs[i]? = some u → w.cell? ⟨b, o + i, none⟩ = some (byteV u)) (hk : k ≤ bs.length) {sv : Value} (hsv : sv = .slice (some ⟨b, o + k, none⟩) (bs.length - k) (cap - k) ∨ (cap = k ∧ sv = .slice (some ⟨b, o, none⟩) (bs.length - k) 0)) :
    Rdr O (w.setCell ⟨rb, 0, none⟩ sv) rb (some (bs.drop k)) ∧ Keeps [rb] w (w.setCell ⟨rb, 0, none⟩ sv) := by
  have hk2 : Keeps [rb] w (w.setCell ⟨rb, 0, none⟩ sv) := (Keeps.refl [rb] w).setCell (List.mem_singleton.2 rfl) _
  refine ⟨⟨sv, h.set 0 sv, ?_, by rw [List.length_drop]; omega⟩, hk2⟩
  exact (RB.drop h1 h2 hb hc hk hsv).keeps (hk2.mono fun k hk => by rw [List.mem_singleton.1 hk]; exact hrb)
theorem nil_or {bs : List UInt8} (k : Nat) (hk : 0 < k) : bs.length < k ∨ (k ≤ bs.length ∧ bs ≠ []) := by
  by_cases h : bs.length < k
  · exact .inl h
  · exact .inr ⟨by omega, fun e => by subst e; simp at h; omega⟩
theorem take_short {k : Nat} {bs : List UInt8} (h : bs.length < k) : rdTake k bs = none := if_neg (by omega)
theorem take_long {k : Nat} {bs : List UInt8} (h : k ≤ bs.length) : rdTake k bs = some (bs.take k, bs.drop k) := if_pos h
theorem nat_short {k : Nat} {bs : List UInt8} (h : bs.length < k) : rdNat k bs = none := bind_none (take_short h)
theorem nat_long {k : Nat} {bs : List UInt8} (h : k ≤ bs.length) : rdNat k bs = some (beNat (bs.take k), bs.drop k) := bind_eq (take_long h)
theorem int_short {k : Nat} {m : Int} {bs : List UInt8} (h : bs.length < k) : rdInt k m bs = none := bind_none (nat_short h)
theorem int_long {k : Nat} {m : Int} {bs : List UInt8} (h : k ≤ bs.length) : rdInt k m bs = some (sg m (beNat (bs.take k)), bs.drop k) := bind_eq (nat_long h)
theorem sg8 (u : Nat) (h : u < 256) : sg 128 u = IntKind.i8.wrap u := by
  simp only [sg, IntKind.wrap, IntKind.bits, IntKind.signed]
  simp
  split <;> omega
theorem sg16 (u : Nat) : sg 32768 u = IntKind.i16.wrap u := by
  simp only [sg, IntKind.wrap, IntKind.bits, IntKind.signed]
  simp
  split <;> omega
theorem sg32 (u : Nat) : sg 2147483648 u = IntKind.i32.wrap u := by
  rw [IntKind.wrap_i32]
  rfl
theorem sg64 (u : Nat) : sg 9223372036854775808 u = IntKind.i64.wrap u := by
  rw [IntKind.wrap_i64]
  rfl
theorem nat_ne0 (z : Nat) : ((z : Int) != 0) = !decide (z = 0) := by
  cases z with
  | zero => rfl
  | succ k => simp; omega
theorem keep_rb {w w' : World} {rb b o : Nat} {x y z : Value} (hb : Below w.heap.size w w') (hB : Blk w rb [x, y] 110) : Blk w' rb [x, y] 110 := hB.below hb hB.lt
theorem rInt8_bad (O : List Nat) (rb : Nat) (w : World) (a : Option Addr) (n cap : Nat) (f : Bool) (hn : n < 1) (hB : Blk w rb [.slice a n cap, .bool f] 110) : Calls Tryz.prog 61 #[.pointer (some ⟨rb, 0, none⟩)] w fun e w' => e = .returned (.int .i8 0) ∧ Rdr O w' rb none ∧ Keeps [rb] w w' := by
  have m0 := hB.cell_some (i := 0) rfl
  have m1 := hB.cell_some (i := 1) rfl
  have f0 := hB.frozen 0
  have f1 := hB.frozen 1
  have Z := Lib.hid (Rdr.fail (O := O) (T := 0) hB)
  clear hB
  go_enter Tryz.func61, Tryz.ntmps61
  go_wp2
  go_ret
  exact ⟨rfl, Z.out⟩
set_option maxHeartbeats 2000000 in
theorem rInt8 : RdC Tryz.prog 61 (rdInt 1 128) (fun _ _ v n => v = .int .i8 n) (fun v => v = .int .i8 0) := by
  intro O rb w st hO hlt h
  cases st with
  | none => exact (rInt8_bad O rb w none 0 0 true (by omega) h).mono (by rintro e w' ⟨rfl, g1, g2⟩; exact .bad rfl g1 g2 rfl)
  | some bs =>
    obtain ⟨a, cap, hB, h1, h2, h3, hM⟩ := h.parts
    rcases nil_or (bs := bs) 1 (by omega) with hs | ⟨hl, hne⟩
    · exact (rInt8_bad O rb w a bs.length cap false hs hB).mono (by rintro e w' ⟨rfl, g1, g2⟩; exact .bad (int_short hs) g1 g2 rfl)
    obtain ⟨b, o, rfl, hb, hc⟩ := h3 hne
    have ad := fun w' (hB' : Blk w' rb [.slice (some ⟨b, o, none⟩) bs.length cap, .bool false] 110) hc' (sv : Value) => Rdr.adv (O := O) (w := w') (o := o) (k := 1) (sv := sv) hM hO hB' h1 h2 hb hc' hl
    have hrd := int_long (k := 1) (m := 128) hl
    obtain ⟨u0, r, rfl⟩ : ∃ u0 r, bs = u0 :: r := match bs, hl with
    | [], h => absurd h (by simp)
    | u0 :: r, _ => ⟨_, _, rfl⟩
    have c0 := hc 0 u0 rfl
    have m0 := hB.cell_some (i := 0) rfl
    have f0 := hB.frozen 0
    have et : (u0 :: r).take 1 = [u0] := rfl
    rw [et] at hrd
    have ev : sg 128 (beNat [u0]) = IntKind.i8.wrap u0.toNat := by
      rw [← sg8 _ u0.toNat_lt]
      simp [beNat]
    rw [ev] at hrd
    have Z := Lib.hid (ad w hB hc)
    rw [Nat.add_zero] at c0
    unfold byteV at c0
    clear ad hB h hlt hc h3 hne hM
    have HRD := Lib.hid hrd
    clear hrd et
    generalize (u0 :: r) = bs at *
    generalize hlen : bs.length = n at *
    clear hlen
    generalize u0.toNat = z at *
    go_enter Tryz.func61, Tryz.ntmps61
    go_wp2
    all_goals go_ret
    all_goals exact .good HRD.out (Z.out _ (by first | exact .inl rfl | exact .inr ⟨by assumption, rfl⟩)) (by first | rfl | exact congrArg Value.bool (nat_ne0 _))
theorem rBool_bad (O : List Nat) (rb : Nat) (w : World) (a : Option Addr) (n cap : Nat) (f : Bool) (hn : n < 1) (hB : Blk w rb [.slice a n cap, .bool f] 110) : Calls Tryz.prog 87 #[.pointer (some ⟨rb, 0, none⟩)] w fun e w' => e = .returned (.bool false) ∧ Rdr O w' rb none ∧ Keeps [rb] w w' := by
  have m0 := hB.cell_some (i := 0) rfl
  have m1 := hB.cell_some (i := 1) rfl
  have f0 := hB.frozen 0
  have f1 := hB.frozen 1
  have Z := Lib.hid (Rdr.fail (O := O) (T := 0) hB)
  clear hB
  go_enter Tryz.func87, Tryz.ntmps87
  go_wp2
  go_ret
  exact ⟨rfl, Z.out⟩
set_option maxHeartbeats 2000000 in
theorem rBool : RdC Tryz.prog 87 (rdNat 1) (fun _ _ v n => v = .bool (decide (n ≠ 0))) (fun v => v = .bool false) := by
  intro O rb w st hO hlt h
  cases st with
  | none => exact (rBool_bad O rb w none 0 0 true (by omega) h).mono (by rintro e w' ⟨rfl, g1, g2⟩; exact .bad rfl g1 g2 rfl)
  | some bs =>
    obtain ⟨a, cap, hB, h1, h2, h3, hM⟩ := h.parts
    rcases nil_or (bs := bs) 1 (by omega) with hs | ⟨hl, hne⟩
    · exact (rBool_bad O rb w a bs.length cap false hs hB).mono (by rintro e w' ⟨rfl, g1, g2⟩; exact .bad (nat_short hs) g1 g2 rfl)
    obtain ⟨b, o, rfl, hb, hc⟩ := h3 hne
    have ad := fun w' (hB' : Blk w' rb [.slice (some ⟨b, o, none⟩) bs.length cap, .bool false] 110) hc' (sv : Value) => Rdr.adv (O := O) (w := w') (o := o) (k := 1) (sv := sv) hM hO hB' h1 h2 hb hc' hl
    have hrd := nat_long (k := 1) hl
    obtain ⟨u0, r, rfl⟩ : ∃ u0 r, bs = u0 :: r := match bs, hl with
    | [], h => absurd h (by simp)
    | u0 :: r, _ => ⟨_, _, rfl⟩
    have c0 := hc 0 u0 rfl
    have m0 := hB.cell_some (i := 0) rfl
    have f0 := hB.frozen 0
    have et : (u0 :: r).take 1 = [u0] := rfl
    rw [et] at hrd
    have ev : beNat [u0] = u0.toNat := by simp [beNat]
    rw [ev] at hrd
    have Z := Lib.hid (ad w hB hc)
    rw [Nat.add_zero] at c0
    unfold byteV at c0
    clear ad hB h hlt hc h3 hne hM
    have HRD := Lib.hid hrd
    clear hrd et
    generalize (u0 :: r) = bs at *
    generalize hlen : bs.length = n at *
    clear hlen
    generalize u0.toNat = z at *
    go_enter Tryz.func87, Tryz.ntmps87
    go_wp2
    all_goals go_ret
    all_goals exact .good HRD.out (Z.out _ (by first | exact .inl rfl | exact .inr ⟨by assumption, rfl⟩)) (by first | rfl | exact congrArg Value.bool (nat_ne0 _))
theorem rInt16_bad (O : List Nat) (rb : Nat) (w : World) (a : Option Addr) (n cap : Nat) (f : Bool) (hn : n < 2) (hB : Blk w rb [.slice a n cap, .bool f] 110) : Calls Tryz.prog 58 #[.pointer (some ⟨rb, 0, none⟩)] w fun e w' => e = .returned (.int .i16 0) ∧ Rdr O w' rb none ∧ Keeps [rb] w w' := by
  have m0 := hB.cell_some (i := 0) rfl
  have m1 := hB.cell_some (i := 1) rfl
  have f0 := hB.frozen 0
  have f1 := hB.frozen 1
  have Z := Lib.hid (Rdr.fail (O := O) (T := 0) hB)
  clear hB
  go_enter Tryz.func58, Tryz.ntmps58
  go_wp2
  go_ret
  exact ⟨rfl, Z.out⟩
set_option maxHeartbeats 2000000 in
theorem rInt16 : RdC Tryz.prog 58 (rdInt 2 32768) (fun _ _ v n => v = .int .i16 n) (fun v => v = .int .i16 0) := by
  intro O rb w st hO hlt h
  cases st with
  | none => exact (rInt16_bad O rb w none 0 0 true (by omega) h).mono (by rintro e w' ⟨rfl, g1, g2⟩; exact .bad rfl g1 g2 rfl)
  | some bs =>
    obtain ⟨a, cap, hB, h1, h2, h3, hM⟩ := h.parts
    rcases nil_or (bs := bs) 2 (by omega) with hs | ⟨hl, hne⟩
    · exact (rInt16_bad O rb w a bs.length cap false hs hB).mono (by rintro e w' ⟨rfl, g1, g2⟩; exact .bad (int_short hs) g1 g2 rfl)
    obtain ⟨b, o, rfl, hb, hc⟩ := h3 hne
    have ad := fun w' (hB' : Blk w' rb [.slice (some ⟨b, o, none⟩) bs.length cap, .bool false] 110) hc' (sv : Value) => Rdr.adv (O := O) (w := w') (o := o) (k := 2) (sv := sv) hM hO hB' h1 h2 hb hc' hl
    have hrd := int_long (k := 2) (m := 32768) hl
    obtain ⟨u0, u1, r, rfl⟩ : ∃ u0 u1 r, bs = u0 :: u1 :: r := match bs, hl with
    | [], h => absurd h (by simp)
    | [_], h => absurd h (by simp)
    | u0 :: u1 :: r, _ => ⟨_, _, _, rfl⟩
    have c0 := hc 0 u0 rfl
    have c1 := hc 1 u1 rfl
    have m0 := hB.cell_some (i := 0) rfl
    have f0 := hB.frozen 0
    have et : (u0 :: u1 :: r).take 2 = [u0, u1] := rfl
    rw [et] at hrd
    have eb : beNat [u0, u1] = Lib.beNat [u0, u1] := by simp [beNat, Lib.beNat, Lib.beFrom]
    rw [eb] at hrd
    rw [sg16] at hrd
    have BE := fun w' (hw : w'.heap = w.heap) => Tryz.binary_BE_Uint16 b o (u0 :: u1 :: r).length cap u0 u1 w' (by simp) (by rw [show w'.cell? _ = w.cell? _ from World.cell?_of_block (by rw [hw])]; exact c0) (by rw [show w'.cell? _ = w.cell? _ from World.cell?_of_block (by rw [hw])]; exact c1)
    have Z := Lib.hid (fun w' (hw : Below w.heap.size w w') sv hsv => ad w' (hB.below hw hB.lt) (fun i u hi => (hw.cell (p := ⟨b, o + i, none⟩) (World.block_lt_of_cell? w _ (hc i u hi))).trans (hc i u hi)) sv hsv)
    have HB := Lib.hid hB
    have BEh := Lib.hid BE
    have HRD := Lib.hid hrd
    have hlen := hl
    clear BE ad hB h hlt hc h3 hne eb hlen hM c0 c1
    generalize (u0 :: u1 :: r).length = n at *
    go_enter Tryz.func58, Tryz.ntmps58
    go_wp2_with fail
    go_region_held3 (fun w' => w'.cell? ⟨rb, 0, none⟩ = some (.slice (some ⟨b, o, none⟩) n cap)) (first | exact hS2 | exact m0)
      (first | (go_at_call 90; refine (BEh.out w.drew rfl).mono ?_; rintro e w2 ⟨rfl, hb2⟩; have hS2 := (HB.out.drew.below hb2 HB.out.lt).cell_some (i := 0) rfl))
    have hbw : Below w.heap.size w w2 := (Below.refl _ _).drew.trans hb2
    have hB2 := HB.out.below hbw HB.out.lt
    have m2 := hB2.cell_some (i := 0) rfl
    have f2 := hB2.frozen 0
    have Z2 := Lib.hid (Z.out w2 hbw)
    have KW := Lib.hid (Keeps.of_below (O := [rb]) hbw (Nat.le_refl _))
    clear hbw hB2 hb2 f0 m0 hS2
    go_wp2
    all_goals go_ret
    all_goals exact .good2 HRD.out KW.out (Z2.out _ (by first | exact .inl rfl | exact .inr ⟨by assumption, rfl⟩)) rfl
theorem rUint16_bad (O : List Nat) (rb : Nat) (w : World) (a : Option Addr) (n cap : Nat) (f : Bool) (hn : n < 2) (hB : Blk w rb [.slice a n cap, .bool f] 110) : Calls Tryz.prog 89 #[.pointer (some ⟨rb, 0, none⟩)] w fun e w' => e = .returned (.int .u16 0) ∧ Rdr O w' rb none ∧ Keeps [rb] w w' := by
  have m0 := hB.cell_some (i := 0) rfl
  have m1 := hB.cell_some (i := 1) rfl
  have f0 := hB.frozen 0
  have f1 := hB.frozen 1
  have Z := Lib.hid (Rdr.fail (O := O) (T := 0) hB)
  clear hB
  go_enter Tryz.func89, Tryz.ntmps89
  go_wp2
  go_ret
  exact ⟨rfl, Z.out⟩
set_option maxHeartbeats 2000000 in
theorem rUint16 : RdC Tryz.prog 89 (rdNat 2) (fun _ _ v n => v = .int .u16 n) (fun v => v = .int .u16 0) := by
  intro O rb w st hO hlt h
  cases st with
  | none => exact (rUint16_bad O rb w none 0 0 true (by omega) h).mono (by rintro e w' ⟨rfl, g1, g2⟩; exact .bad rfl g1 g2 rfl)
  | some bs =>
    obtain ⟨a, cap, hB, h1, h2, h3, hM⟩ := h.parts
    rcases nil_or (bs := bs) 2 (by omega) with hs | ⟨hl, hne⟩
    · exact (rUint16_bad O rb w a bs.length cap false hs hB).mono (by rintro e w' ⟨rfl, g1, g2⟩; exact .bad (nat_short hs) g1 g2 rfl)
    obtain ⟨b, o, rfl, hb, hc⟩ := h3 hne
    have ad := fun w' (hB' : Blk w' rb [.slice (some ⟨b, o, none⟩) bs.length cap, .bool false] 110) hc' (sv : Value) => Rdr.adv (O := O) (w := w') (o := o) (k := 2) (sv := sv) hM hO hB' h1 h2 hb hc' hl
    have hrd := nat_long (k := 2) hl
    obtain ⟨u0, u1, r, rfl⟩ : ∃ u0 u1 r, bs = u0 :: u1 :: r := match bs, hl with
    | [], h => absurd h (by simp)
    | [_], h => absurd h (by simp)
    | u0 :: u1 :: r, _ => ⟨_, _, _, rfl⟩
    have c0 := hc 0 u0 rfl
    have c1 := hc 1 u1 rfl
    have m0 := hB.cell_some (i := 0) rfl
    have f0 := hB.frozen 0
    have et : (u0 :: u1 :: r).take 2 = [u0, u1] := rfl
    rw [et] at hrd
    have eb : beNat [u0, u1] = Lib.beNat [u0, u1] := by simp [beNat, Lib.beNat, Lib.beFrom]
    rw [eb] at hrd
    have BE := fun w' (hw : w'.heap = w.heap) => Tryz.binary_BE_Uint16 b o (u0 :: u1 :: r).length cap u0 u1 w' (by simp) (by rw [show w'.cell? _ = w.cell? _ from World.cell?_of_block (by rw [hw])]; exact c0) (by rw [show w'.cell? _ = w.cell? _ from World.cell?_of_block (by rw [hw])]; exact c1)
    have Z := Lib.hid (fun w' (hw : Below w.heap.size w w') sv hsv => ad w' (hB.below hw hB.lt) (fun i u hi => (hw.cell (p := ⟨b, o + i, none⟩) (World.block_lt_of_cell? w _ (hc i u hi))).trans (hc i u hi)) sv hsv)
    have HB := Lib.hid hB
    have BEh := Lib.hid BE
    have HRD := Lib.hid hrd
    have hlen := hl
    clear BE ad hB h hlt hc h3 hne eb hlen hM c0 c1
    generalize (u0 :: u1 :: r).length = n at *
    go_enter Tryz.func89, Tryz.ntmps89
    go_wp2_with fail
    go_region_held3 (fun w' => w'.cell? ⟨rb, 0, none⟩ = some (.slice (some ⟨b, o, none⟩) n cap)) (first | exact hS2 | exact m0)
      (first | (go_at_call 90; refine (BEh.out w.drew rfl).mono ?_; rintro e w2 ⟨rfl, hb2⟩; have hS2 := (HB.out.drew.below hb2 HB.out.lt).cell_some (i := 0) rfl))
    have hbw : Below w.heap.size w w2 := (Below.refl _ _).drew.trans hb2
    have hB2 := HB.out.below hbw HB.out.lt
    have m2 := hB2.cell_some (i := 0) rfl
    have f2 := hB2.frozen 0
    have Z2 := Lib.hid (Z.out w2 hbw)
    have KW := Lib.hid (Keeps.of_below (O := [rb]) hbw (Nat.le_refl _))
    clear hbw hB2 hb2 f0 m0 hS2
    go_wp2
    all_goals go_ret
    all_goals exact .good2 HRD.out KW.out (Z2.out _ (by first | exact .inl rfl | exact .inr ⟨by assumption, rfl⟩)) rfl
theorem rInt32_bad (O : List Nat) (rb : Nat) (w : World) (a : Option Addr) (n cap : Nat) (f : Bool) (hn : n < 4) (hB : Blk w rb [.slice a n cap, .bool f] 110) : Calls Tryz.prog 60 #[.pointer (some ⟨rb, 0, none⟩)] w fun e w' => e = .returned (.int .i32 0) ∧ Rdr O w' rb none ∧ Keeps [rb] w w' := by
  have m0 := hB.cell_some (i := 0) rfl
  have m1 := hB.cell_some (i := 1) rfl
  have f0 := hB.frozen 0
  have f1 := hB.frozen 1
  have Z := Lib.hid (Rdr.fail (O := O) (T := 0) hB)
  clear hB
  go_enter Tryz.func60, Tryz.ntmps60
  go_wp2
  go_ret
  exact ⟨rfl, Z.out⟩
set_option maxHeartbeats 2000000 in
theorem rInt32 : RdC Tryz.prog 60 (rdInt 4 2147483648) (fun _ _ v n => v = .int .i32 n) (fun v => v = .int .i32 0) := by
  intro O rb w st hO hlt h
  cases st with
  | none => exact (rInt32_bad O rb w none 0 0 true (by omega) h).mono (by rintro e w' ⟨rfl, g1, g2⟩; exact .bad rfl g1 g2 rfl)
  | some bs =>
    obtain ⟨a, cap, hB, h1, h2, h3, hM⟩ := h.parts
    rcases nil_or (bs := bs) 4 (by omega) with hs | ⟨hl, hne⟩
    · exact (rInt32_bad O rb w a bs.length cap false hs hB).mono (by rintro e w' ⟨rfl, g1, g2⟩; exact .bad (int_short hs) g1 g2 rfl)
    obtain ⟨b, o, rfl, hb, hc⟩ := h3 hne
    have ad := fun w' (hB' : Blk w' rb [.slice (some ⟨b, o, none⟩) bs.length cap, .bool false] 110) hc' (sv : Value) => Rdr.adv (O := O) (w := w') (o := o) (k := 4) (sv := sv) hM hO hB' h1 h2 hb hc' hl
    have hrd := int_long (k := 4) (m := 2147483648) hl
    obtain ⟨u0, u1, u2, u3, r, rfl⟩ : ∃ u0 u1 u2 u3 r, bs = u0 :: u1 :: u2 :: u3 :: r := match bs, hl with
    | [], h => absurd h (by simp)
    | [_], h => absurd h (by simp)
    | [_, _], h => absurd h (by simp)
    | [_, _, _], h => absurd h (by simp)
    | u0 :: u1 :: u2 :: u3 :: r, _ => ⟨_, _, _, _, _, rfl⟩
    have c0 := hc 0 u0 rfl
    have c1 := hc 1 u1 rfl
    have c2 := hc 2 u2 rfl
    have c3 := hc 3 u3 rfl
    have m0 := hB.cell_some (i := 0) rfl
    have f0 := hB.frozen 0
    have et : (u0 :: u1 :: u2 :: u3 :: r).take 4 = [u0, u1, u2, u3] := rfl
    rw [et] at hrd
    have eb : beNat [u0, u1, u2, u3] = Lib.beNat [u0, u1, u2, u3] := by simp [beNat, Lib.beNat, Lib.beFrom]
    rw [eb] at hrd
    rw [sg32] at hrd
    have BE := fun w' (hw : w'.heap = w.heap) => Tryz.binary_BE_Uint32 b o (u0 :: u1 :: u2 :: u3 :: r).length cap u0 u1 u2 u3 w' (by simp) (by rw [show w'.cell? _ = w.cell? _ from World.cell?_of_block (by rw [hw])]; exact c0) (by rw [show w'.cell? _ = w.cell? _ from World.cell?_of_block (by rw [hw])]; exact c1) (by rw [show w'.cell? _ = w.cell? _ from World.cell?_of_block (by rw [hw])]; exact c2) (by rw [show w'.cell? _ = w.cell? _ from World.cell?_of_block (by rw [hw])]; exact c3)
    have Z := Lib.hid (fun w' (hw : Below w.heap.size w w') sv hsv => ad w' (hB.below hw hB.lt) (fun i u hi => (hw.cell (p := ⟨b, o + i, none⟩) (World.block_lt_of_cell? w _ (hc i u hi))).trans (hc i u hi)) sv hsv)
    have HB := Lib.hid hB
    have BEh := Lib.hid BE
    have HRD := Lib.hid hrd
    have hlen := hl
    clear BE ad hB h hlt hc h3 hne eb hlen hM c0 c1 c2 c3
    generalize (u0 :: u1 :: u2 :: u3 :: r).length = n at *
    go_enter Tryz.func60, Tryz.ntmps60
    go_wp2_with fail
    go_region_held3 (fun w' => w'.cell? ⟨rb, 0, none⟩ = some (.slice (some ⟨b, o, none⟩) n cap)) (first | exact hS2 | exact m0)
      (first | (go_at_call 92; refine (BEh.out w.drew rfl).mono ?_; rintro e w2 ⟨rfl, hb2⟩; have hS2 := (HB.out.drew.below hb2 HB.out.lt).cell_some (i := 0) rfl))
    have hbw : Below w.heap.size w w2 := (Below.refl _ _).drew.trans hb2
    have hB2 := HB.out.below hbw HB.out.lt
    have m2 := hB2.cell_some (i := 0) rfl
    have f2 := hB2.frozen 0
    have Z2 := Lib.hid (Z.out w2 hbw)
    have KW := Lib.hid (Keeps.of_below (O := [rb]) hbw (Nat.le_refl _))
    clear hbw hB2 hb2 f0 m0 hS2
    go_wp2
    all_goals go_ret
    all_goals exact .good2 HRD.out KW.out (Z2.out _ (by first | exact .inl rfl | exact .inr ⟨by assumption, rfl⟩)) rfl
theorem rReadUint64_bad (O : List Nat) (rb : Nat) (w : World) (a : Option Addr) (n cap : Nat) (f : Bool) (hn : n < 8) (hB : Blk w rb [.slice a n cap, .bool f] 110) : Calls Tryz.prog 91 #[.pointer (some ⟨rb, 0, none⟩)] w fun e w' => e = .returned (.int .u64 0) ∧ Rdr O w' rb none ∧ Keeps [rb] w w' := by
  have m0 := hB.cell_some (i := 0) rfl
  have m1 := hB.cell_some (i := 1) rfl
  have f0 := hB.frozen 0
  have f1 := hB.frozen 1
  have Z := Lib.hid (Rdr.fail (O := O) (T := 0) hB)
  clear hB
  go_enter Tryz.func91, Tryz.ntmps91
  go_wp2
  go_ret
  exact ⟨rfl, Z.out⟩
set_option maxHeartbeats 2000000 in
theorem rReadUint64 : RdC Tryz.prog 91 (rdNat 8) (fun _ _ v n => v = .int .u64 n) (fun v => v = .int .u64 0) := by
  intro O rb w st hO hlt h
  cases st with
  | none => exact (rReadUint64_bad O rb w none 0 0 true (by omega) h).mono (by rintro e w' ⟨rfl, g1, g2⟩; exact .bad rfl g1 g2 rfl)
  | some bs =>
    obtain ⟨a, cap, hB, h1, h2, h3, hM⟩ := h.parts
    rcases nil_or (bs := bs) 8 (by omega) with hs | ⟨hl, hne⟩
    · exact (rReadUint64_bad O rb w a bs.length cap false hs hB).mono (by rintro e w' ⟨rfl, g1, g2⟩; exact .bad (nat_short hs) g1 g2 rfl)
    obtain ⟨b, o, rfl, hb, hc⟩ := h3 hne
    have ad := fun w' (hB' : Blk w' rb [.slice (some ⟨b, o, none⟩) bs.length cap, .bool false] 110) hc' (sv : Value) => Rdr.adv (O := O) (w := w') (o := o) (k := 8) (sv := sv) hM hO hB' h1 h2 hb hc' hl
    have hrd := nat_long (k := 8) hl
    obtain ⟨u0, u1, u2, u3, u4, u5, u6, u7, r, rfl⟩ : ∃ u0 u1 u2 u3 u4 u5 u6 u7 r, bs = u0 :: u1 :: u2 :: u3 :: u4 :: u5 :: u6 :: u7 :: r := match bs, hl with
    | [], h => absurd h (by simp)
    | [_], h => absurd h (by simp)
    | [_, _], h => absurd h (by simp)
    | [_, _, _], h => absurd h (by simp)
    | [_, _, _, _], h => absurd h (by simp)
    | [_, _, _, _, _], h => absurd h (by simp)
    | [_, _, _, _, _, _], h => absurd h (by simp)
    | [_, _, _, _, _, _, _], h => absurd h (by simp)
    | u0 :: u1 :: u2 :: u3 :: u4 :: u5 :: u6 :: u7 :: r, _ => ⟨_, _, _, _, _, _, _, _, _, rfl⟩
    have c0 := hc 0 u0 rfl
    have c1 := hc 1 u1 rfl
    have c2 := hc 2 u2 rfl
    have c3 := hc 3 u3 rfl
    have c4 := hc 4 u4 rfl
    have c5 := hc 5 u5 rfl
    have c6 := hc 6 u6 rfl
    have c7 := hc 7 u7 rfl
    have m0 := hB.cell_some (i := 0) rfl
    have f0 := hB.frozen 0
    have et : (u0 :: u1 :: u2 :: u3 :: u4 :: u5 :: u6 :: u7 :: r).take 8 = [u0, u1, u2, u3, u4, u5, u6, u7] := rfl
    rw [et] at hrd
    have eb : beNat [u0, u1, u2, u3, u4, u5, u6, u7] = Lib.beNat [u0, u1, u2, u3, u4, u5, u6, u7] := by simp [beNat, Lib.beNat, Lib.beFrom]
    rw [eb] at hrd
    have BE := fun w' (hw : w'.heap = w.heap) => Tryz.binary_BE_Uint64 b o (u0 :: u1 :: u2 :: u3 :: u4 :: u5 :: u6 :: u7 :: r).length cap u0 u1 u2 u3 u4 u5 u6 u7 w' (by simp) (by rw [show w'.cell? _ = w.cell? _ from World.cell?_of_block (by rw [hw])]; exact c0) (by rw [show w'.cell? _ = w.cell? _ from World.cell?_of_block (by rw [hw])]; exact c1) (by rw [show w'.cell? _ = w.cell? _ from World.cell?_of_block (by rw [hw])]; exact c2) (by rw [show w'.cell? _ = w.cell? _ from World.cell?_of_block (by rw [hw])]; exact c3) (by rw [show w'.cell? _ = w.cell? _ from World.cell?_of_block (by rw [hw])]; exact c4) (by rw [show w'.cell? _ = w.cell? _ from World.cell?_of_block (by rw [hw])]; exact c5) (by rw [show w'.cell? _ = w.cell? _ from World.cell?_of_block (by rw [hw])]; exact c6) (by rw [show w'.cell? _ = w.cell? _ from World.cell?_of_block (by rw [hw])]; exact c7)
    have Z := Lib.hid (fun w' (hw : Below w.heap.size w w') sv hsv => ad w' (hB.below hw hB.lt) (fun i u hi => (hw.cell (p := ⟨b, o + i, none⟩) (World.block_lt_of_cell? w _ (hc i u hi))).trans (hc i u hi)) sv hsv)
    have HB := Lib.hid hB
    have BEh := Lib.hid BE
    have HRD := Lib.hid hrd
    have hlen := hl
    clear BE ad hB h hlt hc h3 hne eb hlen hM c0 c1 c2 c3 c4 c5 c6 c7
    generalize (u0 :: u1 :: u2 :: u3 :: u4 :: u5 :: u6 :: u7 :: r).length = n at *
    go_enter Tryz.func91, Tryz.ntmps91
    go_wp2_with fail
    go_region_held3 (fun w' => w'.cell? ⟨rb, 0, none⟩ = some (.slice (some ⟨b, o, none⟩) n cap)) (first | exact hS2 | exact m0)
      (first | (go_at_call 98; refine (BEh.out w.drew rfl).mono ?_; rintro e w2 ⟨rfl, hb2⟩; have hS2 := (HB.out.drew.below hb2 HB.out.lt).cell_some (i := 0) rfl))
    have hbw : Below w.heap.size w w2 := (Below.refl _ _).drew.trans hb2
    have hB2 := HB.out.below hbw HB.out.lt
    have m2 := hB2.cell_some (i := 0) rfl
    have f2 := hB2.frozen 0
    have Z2 := Lib.hid (Z.out w2 hbw)
    have KW := Lib.hid (Keeps.of_below (O := [rb]) hbw (Nat.le_refl _))
    clear hbw hB2 hb2 f0 m0 hS2
    go_wp2
    all_goals go_ret
    all_goals exact .good2 HRD.out KW.out (Z2.out _ (by first | exact .inl rfl | exact .inr ⟨by assumption, rfl⟩)) rfl

theorem RB.dropG {O : List Nat} {w : World} {a : Option Addr} {cap k : Nat} {bs : List UInt8} (h : RB O w (.slice a bs.length cap) bs) (hk : k ≤ bs.length) {sv : Value}
    (hsv : sv = .slice (a.map fun x => x.add k) (bs.length - k) (cap - k) ∨ (cap = k ∧ sv = .slice a (bs.length - k) 0)) : RB O w sv (bs.drop k) := by
  obtain ⟨a', cap', e, h1, h2, h3⟩ := h
  cases e
  by_cases hne : bs = []
  · subst hne
    have : k = 0 := by simpa using hk
    subst this
    rcases hsv with rfl | ⟨rfl, rfl⟩
    · exact ⟨_, cap, rfl, by simp, h2, fun h => absurd rfl h⟩
    · exact ⟨_, 0, rfl, by simp, by omega, fun h => absurd rfl h⟩
  · obtain ⟨b, o, rfl, hb, hc⟩ := h3 hne
    refine RB.drop h1 h2 hb hc hk ?_
    rcases hsv with rfl | ⟨h4, rfl⟩
    · exact .inl (by simp [Addr.add])
    · exact .inr ⟨h4, rfl⟩
theorem RB.takeG {O : List Nat} {w : World} {a : Option Addr} {cap k : Nat} {bs : List UInt8} (h : RB O w (.slice a bs.length cap) bs) (hk : k ≤ bs.length) : RB O w (.slice a k k) (bs.take k) := by
  obtain ⟨a', cap', e, h1, h2, h3⟩ := h
  cases e
  refine ⟨a, k, by rw [List.length_take, Nat.min_eq_left hk], by rw [List.length_take]; omega, by omega, fun hne => ?_⟩
  have hb : bs ≠ [] := by rintro rfl; exact hne (by simp)
  obtain ⟨b, o, ha, hO, hc⟩ := h3 hb
  refine ⟨b, o, ha, hO, fun i u hi => hc i u ?_⟩
  rw [List.getElem?_take] at hi
  split at hi
  · exact hi
  · cases hi
theorem Rdr.advG {O : List Nat} {w : World} {rb cap k : Nat} {x : Value} {a : Option Addr} {bs : List UInt8} (hM : bs.length ≤ lim) (hrb : rb ∈ O) (h : Blk w rb [x, .bool false] 110) (hr : RB O w (.slice a bs.length cap) bs) (hk : k ≤ bs.length) {sv : Value}
    (hsv : sv = .slice (a.map fun x => x.add k) (bs.length - k) (cap - k) ∨ (cap = k ∧ sv = .slice a (bs.length - k) 0)) :
    Rdr O (w.setCell ⟨rb, 0, none⟩ sv) rb (some (bs.drop k)) ∧ Keeps [rb] w (w.setCell ⟨rb, 0, none⟩ sv) := by
  have hk2 : Keeps [rb] w (w.setCell ⟨rb, 0, none⟩ sv) := (Keeps.refl [rb] w).setCell (List.mem_singleton.2 rfl) _
  exact ⟨⟨sv, h.set 0 sv, (hr.dropG hk hsv).keeps (hk2.mono fun k hk => by rw [List.mem_singleton.1 hk]; exact hrb), by rw [List.length_drop]; omega⟩, hk2⟩
def rdSpan (l : Int) : Pr (List UInt8) := if l < 0 then .fail else rdTake l.toNat
set_option maxHeartbeats 1000000 in
theorem rSpan_bad (O : List Nat) (rb : Nat) (w : World) (a : Option Addr) (n cap : Nat) (f : Bool) (l : Int) (hn : (n : Int) < l ∨ l < 0) (hB : Blk w rb [.slice a n cap, .bool f] 110) :
    Calls Tryz.prog 74 #[.pointer (some ⟨rb, 0, none⟩), .int .i64 l] w fun e w' => e = .returned (.slice none 0 0) ∧ Rdr O w' rb none ∧ Keeps [rb] w w' := by
  have m0 := hB.cell_some (i := 0) rfl
  have m1 := hB.cell_some (i := 1) rfl
  have f0 := hB.frozen 0
  have f1 := hB.frozen 1
  have Z := Lib.hid (Rdr.fail (O := O) (T := 0) hB)
  clear hB
  by_cases hx : (n : Int) < l
  · clear hn
    go_enter Tryz.func74, Tryz.ntmps74
    go_wp2
    go_ret
    exact ⟨rfl, Z.out⟩
  · have hl : l < 0 := by omega
    clear hn
    go_enter Tryz.func74, Tryz.ntmps74
    go_wp2
    go_ret
    exact ⟨rfl, Z.out⟩
inductive SpanOk (rb : Nat) (w : World) (a : Option Addr) (n cap : Nat) (l : Int) (e : Ending) (w' : World) : Prop
  | mk {sv : Value} (he : e = .returned (.slice a l.toNat l.toNat)) (hw : w' = w.setCell ⟨rb, 0, none⟩ sv) (hsv : sv = .slice (a.map fun x => x.add l.toNat) (n - l.toNat) (cap - l.toNat) ∨ (cap = l.toNat ∧ sv = .slice a (n - l.toNat) 0)) : SpanOk rb w a n cap l e w'
set_option maxHeartbeats 1000000 in
theorem rSpan_ok (rb : Nat) (w : World) (a : Option Addr) (n cap : Nat) (f : Bool) (l : Int) (h0 : 0 ≤ l) (hn : l ≤ n) (h1 : n ≤ cap) (h2 : cap ≤ 9223372036854775807) (hB : Blk w rb [.slice a n cap, .bool f] 110) :
    Calls Tryz.prog 74 #[.pointer (some ⟨rb, 0, none⟩), .int .i64 l] w (SpanOk rb w a n cap l) := by
  have m0 := hB.cell_some (i := 0) rfl
  have f0 := hB.frozen 0
  clear hB
  go_enter Tryz.func74, Tryz.ntmps74
  go_wp2
  all_goals go_ret
  all_goals refine SpanOk.mk rfl rfl ?_
  · exact .inr ⟨by first | rfl | assumption, rfl⟩
  · exact .inl rfl
theorem rSpan (O : List Nat) (rb : Nat) (w : World) (st : Option (List UInt8)) (l : Int) (hO : rb ∈ O) (hlt : ∀ k, k ∈ O → k < w.heap.size) (h : Rdr O w rb st) :
    Calls Tryz.prog 74 #[.pointer (some ⟨rb, 0, none⟩), .int .i64 l] w (RdPost (rdSpan l) (fun O w v s => RB O w v s) (fun v => v = .slice none 0 0) O rb w st) := by
  cases st with
  | none =>
    by_cases hl : l = 0
    · subst hl
      refine (rSpan_ok rb w none 0 0 true 0 (by omega) (by omega) (by omega) (by omega) h).mono ?_
      rintro e w' ⟨rfl, rfl, hsv⟩
      rename_i sv
      have e : sv = .slice none 0 0 := by rcases hsv with rfl | ⟨-, rfl⟩ <;> rfl
      subst e
      exact .bad rfl (Blk.set h 0 _) ((Keeps.refl [rb] w).setCell (List.mem_singleton.2 rfl) _) rfl
    · exact (rSpan_bad O rb w none 0 0 true l (by omega) h).mono (by rintro e w' ⟨rfl, g1, g2⟩; exact .bad rfl g1 g2 rfl)
  | some bs =>
    obtain ⟨sv, hB, hr, hM⟩ := h
    obtain ⟨a, cap, rfl, h1, h2, h3⟩ := id hr
    by_cases hl : (bs.length : Int) < l ∨ l < 0
    · refine (rSpan_bad O rb w a bs.length cap false l hl hB).mono ?_
      rintro e w' ⟨rfl, g1, g2⟩
      refine .bad ?_ g1 g2 rfl
      change rdSpan l bs = none
      unfold rdSpan
      split
      · rfl
      · exact take_short (by omega)
    · refine (rSpan_ok rb w a bs.length cap false l (by omega) (by omega) h1 h2 hB).mono ?_
      rintro e w' ⟨rfl, rfl, hsv⟩
      rename_i sv
      have e : rdSpan l bs = some (bs.take l.toNat, bs.drop l.toNat) := by
        unfold rdSpan
        rw [if_neg (by omega)]
        exact take_long (by omega)
      have hz := Rdr.advG hM hO hB hr (k := l.toNat) (by omega) hsv
      exact .good e hz ((hr.takeG (by omega)).keeps (hz.2.mono fun k hk => by rw [List.mem_singleton.1 hk]; exact hO))
end Go.Proofs.YtmpilpgabelmiaaGreatDoor

/- The reader's numbers in groups of seven bits. -/
namespace Go.Proofs.YtmpilpgabelmiaaGreatDoor
open Go Go.RowKit
set_option linter.unusedVariables false

theorem u8and127 (n : Nat) (h : n < 256) : bits BinOp.and IntKind.u8 (n : Int) 127 = ((n % 128 : Nat) : Int) := by
  have e := Nat.and_two_pow_sub_one_eq_mod n 7
  have e2 : bits BinOp.and IntKind.u8 (n : Int) 127 = IntKind.u8.wrap (((BitVec.ofNat 8 n &&& BitVec.ofNat 8 127).toNat : Nat) : Int) := by
    unfold bits
    rfl
  have e3 : (BitVec.ofNat 8 n &&& BitVec.ofNat 8 127).toNat = n % 128 := by
    rw [BitVec.toNat_and, BitVec.toNat_ofNat, BitVec.toNat_ofNat, Nat.mod_eq_of_lt h]
    exact e
  rw [e2, e3, IntKind.wrap_u8]
  omega
theorem u8and128 : ∀ (n : Nat) (h : n < 256), bits BinOp.and IntKind.u8 (n : Int) 128 = if n < 128 then 0 else 128 := by
  have h : ∀ n : Fin 256, bits BinOp.and IntKind.u8 ((n.val : Nat) : Int) 128 = if n.val < 128 then 0 else 128 := by decide +kernel
  exact fun n hn => h ⟨n, hn⟩
theorem u32or (a y k m : Nat) (hk : (k = 7 ∧ m = 128) ∨ (k = 14 ∧ m = 16384) ∨ (k = 21 ∧ m = 2097152) ∨ (k = 28 ∧ m = 268435456)) (ha : a < m) (hy : y * m < 4294967296) : bits BinOp.or IntKind.u32 (a : Int) ((y * m : Nat) : Int) = ((a + m * y : Nat) : Int) := by
  have hm : m = 2 ^ k := by rcases hk with ⟨rfl, rfl⟩ | ⟨rfl, rfl⟩ | ⟨rfl, rfl⟩ | ⟨rfl, rfl⟩ <;> rfl
  have e := Nat.two_pow_add_eq_or_of_lt (i := k) (b := a) (hm ▸ ha) y
  rw [← hm] at e
  have h2 : a < 4294967296 := by rcases hk with ⟨rfl, rfl⟩ | ⟨rfl, rfl⟩ | ⟨rfl, rfl⟩ | ⟨rfl, rfl⟩ <;> omega
  have h3 : a + m * y < 4294967296 := by rcases hk with ⟨rfl, rfl⟩ | ⟨rfl, rfl⟩ | ⟨rfl, rfl⟩ | ⟨rfl, rfl⟩ <;> omega
  have e2 : bits BinOp.or IntKind.u32 (a : Int) ((y * m : Nat) : Int) = IntKind.u32.wrap (((BitVec.ofNat 32 a ||| BitVec.ofNat 32 (y * m)).toNat : Nat) : Int) := by
    unfold bits
    rfl
  have e3 : (BitVec.ofNat 32 a ||| BitVec.ofNat 32 (y * m)).toNat = a + m * y := by
    rw [BitVec.toNat_or, BitVec.toNat_ofNat, BitVec.toNat_ofNat, Nat.mod_eq_of_lt h2, Nat.mod_eq_of_lt hy, Nat.or_comm, Nat.mul_comm y m, ← e]
    omega
  rw [e2, e3, IntKind.wrap_u32]
  omega
/-- The same as the walk spells it. -/
theorem u32or' (a y k m : Nat) (mi : Int) (hmi : mi = (m : Nat)) (hk : (k = 7 ∧ m = 128) ∨ (k = 14 ∧ m = 16384) ∨ (k = 21 ∧ m = 2097152) ∨ (k = 28 ∧ m = 268435456)) (ha : a < m) (hy : y * m < 4294967296) : bits BinOp.or IntKind.u32 (a : Int) ((y : Int) % 4294967296 * mi % 4294967296) = ((a + m * y : Nat) : Int) := by
  subst hmi
  have e : (y : Int) % 4294967296 * (m : Int) % 4294967296 = ((y * m : Nat) : Int) := by
    have hy0 : y < 4294967296 := by rcases hk with ⟨rfl, rfl⟩ | ⟨rfl, rfl⟩ | ⟨rfl, rfl⟩ | ⟨rfl, rfl⟩ <;> omega
    have e1 : (y : Int) % 4294967296 = y := by omega
    have e2 : ((y * m : Nat) : Int) % 4294967296 = ((y * m : Nat) : Int) := by omega
    rw [e1, ← Int.natCast_mul, e2]
  rw [e]
  exact u32or a y k m hk ha hy
theorem u32or4 (a y : Nat) (ha : a < 268435456) (hy : y < 16) : bits BinOp.or IntKind.u32 (a : Int) ((y : Int) * 268435456) = ((a + 268435456 * y : Nat) : Int) := by
  have h := u32or a y 28 268435456 (by omega) ha (by omega)
  rw [Int.natCast_mul] at h
  exact h
/-- What kbin.Uvarint hands back. -/
inductive UvOut (bs : List UInt8) (w : World) (e : Ending) (w' : World) : Prop
  | good {x : Nat} {k : Nat} (hk : 0 < k ∧ k ≤ bs.length) (hr : rdUv bs = some (x, bs.drop k)) (he : e = .returned (.tuple #[.int .u32 x, .int .i64 k])) (hw : w = w') : UvOut bs w e w'
  | bad {n : Int} (hn : n ≤ 0) (hr : rdUv bs = none) (he : e = .returned (.tuple #[.int .u32 0, .int .i64 n])) (hw : w = w') : UvOut bs w e w'
theorem uv_rest {P : Program} {fn : Func} {R : Ending → World → Prop} {a : Act} {w : World} {v : Int} {r y1 y2 y3 : Nat} {p1 p2 p3 : String} {e1 e2 e3 : Array Edge} {Q : Exit → Act → World → Prop} (hres : fn.results = #[.tmp 2, .tmp 3]) (h5 : aget a 5 = .int .i64 v) (hs : a.tmps.size = 87) (hd : a.defers = [])
    (hR : R (.returned (.tuple #[.int .u32 0, .int .i64 v])) w) (hQ : ∀ a w, bodyPost P fn R .ret a w → Q .ret a w) :
    (Code.seq .skip ((Code.region r #[⟨some 86, .move (.tmp 5), y1, p1, e1, none⟩, ⟨some 2, .assign (.const (.int .u32 0)), y2, p2, e2, none⟩, ⟨some 3, .assign (.tmp 86), y3, p3, e3, none⟩] false).seq .ret)).wp P Q a w := by
  refine wp_seq (wp_skip ?_)
  refine wp_seq (wp_reg ?_)
  refine wl_move h5 ?_
  refine wl_assign_c ?_
  refine wl_assign (v := .int .i64 v) (by rw [aget_put_other _ _ _ _ (by omega)]; exact aget_put_same _ _ _ (by rw [hs]; omega)) ?_
  refine wpList_nil (wp_ret (hQ _ _ ?_))
  refine bodyPost_ret (results_tmp2 hres _ _ _) hd ?_
  have g2 : ∀ A : Act, A.tmps.getD 2 undef = aget A 2 := fun _ => rfl
  have g3 : ∀ A : Act, A.tmps.getD 3 undef = aget A 3 := fun _ => rfl
  rw [g2, g3, aget_put_same _ _ _ (by simp only [size_put, hs]; omega), aget_put_other _ _ _ _ (by omega), aget_put_same _ _ _ (by simp only [size_put, hs]; omega)]
  exact hR
theorem noGoto_ret {Q : Exit → Act → World → Prop} {a : Act} {w : World} (h : Q .ret a w) : Exit.noGoto Q .ret a w := h
set_option maxHeartbeats 2000000 in
theorem uvS1 (bs : List UInt8) (w : World) (b o n cap : Nat) (z0 y0 : Nat) (hn : (1 : Int) ≤ n) (hlen : n = bs.length) (c0 : w.cell? ⟨b, o, none⟩ = some (.int .u8 (z0 : Nat))) (h0 : bits BinOp.and IntKind.u8 (z0 : Nat) 127 = (y0 : Nat)) (k0 : bits BinOp.and IntKind.u8 (z0 : Nat) 128 = 0) (b0 : y0 < 128) (hr : rdUv bs = some (y0, bs.drop 1)) :
    Calls Tryz.prog 94 #[.slice (some ⟨b, o, none⟩) n cap] w (UvOut bs w) := by
  have fin : Ending.returned (.tuple #[.int .u32 (((y0 : Nat) : Int) % 4294967296), .int .i64 1]) = .returned (.tuple #[.int .u32 ((y0 : Nat) : Int), .int .i64 ((1 : Nat) : Int)]) := by
    have e0 : ((y0 : Nat) : Int) % 4294967296 = ((y0 : Nat) : Int) := by omega
    rw [e0]
    rfl
  have Z := Lib.hid (And.intro hlen (And.intro hr fin))
  clear hlen hr fin b0
  go_enter Tryz.func94, Tryz.ntmps94
  go_wp2
  apply wp_scope_straight
  go_wp2_with fail
  refine noGoto_ret ?_
  go_ret2
  exact .good (k := 1) ⟨by omega, by rw [← Z.out.1]; omega⟩ Z.out.2.1 Z.out.2.2 rfl
set_option maxHeartbeats 2000000 in
theorem uvS2 (bs : List UInt8) (w : World) (b o n cap : Nat) (z0 z1 y0 y1 : Nat) (hn : (2 : Int) ≤ n) (hlen : n = bs.length) (c0 : w.cell? ⟨b, o, none⟩ = some (.int .u8 (z0 : Nat))) (c1 : w.cell? ⟨b, o + 1, none⟩ = some (.int .u8 (z1 : Nat))) (h0 : bits BinOp.and IntKind.u8 (z0 : Nat) 127 = (y0 : Nat)) (k0 : bits BinOp.and IntKind.u8 (z0 : Nat) 128 = 128) (h1 : bits BinOp.and IntKind.u8 (z1 : Nat) 127 = (y1 : Nat)) (k1 : bits BinOp.and IntKind.u8 (z1 : Nat) 128 = 0) (b0 : y0 < 128) (b1 : y1 < 128) (hr : rdUv bs = some (y0 + 128 * y1, bs.drop 2)) :
    Calls Tryz.prog 94 #[.slice (some ⟨b, o, none⟩) n cap] w (UvOut bs w) := by
  have fin : Ending.returned (.tuple #[.int .u32 (bits BinOp.or IntKind.u32 (((y0 : Nat) : Int) % 4294967296) ((y1 : Nat) % 4294967296 * 128 % 4294967296)), .int .i64 2]) = .returned (.tuple #[.int .u32 ((y0 + 128 * y1 : Nat) : Int), .int .i64 ((2 : Nat) : Int)]) := by
    have e0 : ((y0 : Nat) : Int) % 4294967296 = ((y0 : Nat) : Int) := by omega
    have e1 := u32or' (y0) y1 7 128 128 rfl (by omega) (by omega) (by omega)
    rw [e0, e1]
    rfl
  have Z := Lib.hid (And.intro hlen (And.intro hr fin))
  clear hlen hr fin b0 b1
  go_enter Tryz.func94, Tryz.ntmps94
  go_wp2
  apply wp_scope_straight
  go_wp2_with fail
  refine noGoto_ret ?_
  go_ret2
  exact .good (k := 2) ⟨by omega, by rw [← Z.out.1]; omega⟩ Z.out.2.1 Z.out.2.2 rfl
set_option maxHeartbeats 2000000 in
theorem uvS3 (bs : List UInt8) (w : World) (b o n cap : Nat) (z0 z1 z2 y0 y1 y2 : Nat) (hn : (3 : Int) ≤ n) (hlen : n = bs.length) (c0 : w.cell? ⟨b, o, none⟩ = some (.int .u8 (z0 : Nat))) (c1 : w.cell? ⟨b, o + 1, none⟩ = some (.int .u8 (z1 : Nat))) (c2 : w.cell? ⟨b, o + 2, none⟩ = some (.int .u8 (z2 : Nat))) (h0 : bits BinOp.and IntKind.u8 (z0 : Nat) 127 = (y0 : Nat)) (k0 : bits BinOp.and IntKind.u8 (z0 : Nat) 128 = 128) (h1 : bits BinOp.and IntKind.u8 (z1 : Nat) 127 = (y1 : Nat)) (k1 : bits BinOp.and IntKind.u8 (z1 : Nat) 128 = 128) (h2 : bits BinOp.and IntKind.u8 (z2 : Nat) 127 = (y2 : Nat)) (k2 : bits BinOp.and IntKind.u8 (z2 : Nat) 128 = 0) (b0 : y0 < 128) (b1 : y1 < 128) (b2 : y2 < 128) (hr : rdUv bs = some (y0 + 128 * y1 + 16384 * y2, bs.drop 3)) :
    Calls Tryz.prog 94 #[.slice (some ⟨b, o, none⟩) n cap] w (UvOut bs w) := by
  have fin : Ending.returned (.tuple #[.int .u32 (bits BinOp.or IntKind.u32 (bits BinOp.or IntKind.u32 (((y0 : Nat) : Int) % 4294967296) ((y1 : Nat) % 4294967296 * 128 % 4294967296)) ((y2 : Nat) % 4294967296 * 16384 % 4294967296)), .int .i64 3]) = .returned (.tuple #[.int .u32 ((y0 + 128 * y1 + 16384 * y2 : Nat) : Int), .int .i64 ((3 : Nat) : Int)]) := by
    have e0 : ((y0 : Nat) : Int) % 4294967296 = ((y0 : Nat) : Int) := by omega
    have e1 := u32or' (y0) y1 7 128 128 rfl (by omega) (by omega) (by omega)
    have e2 := u32or' (y0 + 128 * y1) y2 14 16384 16384 rfl (by omega) (by omega) (by omega)
    rw [e0, e1, e2]
    rfl
  have Z := Lib.hid (And.intro hlen (And.intro hr fin))
  clear hlen hr fin b0 b1 b2
  go_enter Tryz.func94, Tryz.ntmps94
  go_wp2
  apply wp_scope_straight
  go_wp2_with fail
  refine noGoto_ret ?_
  go_ret2
  exact .good (k := 3) ⟨by omega, by rw [← Z.out.1]; omega⟩ Z.out.2.1 Z.out.2.2 rfl
set_option maxHeartbeats 2000000 in
theorem uvS4 (bs : List UInt8) (w : World) (b o n cap : Nat) (z0 z1 z2 z3 y0 y1 y2 y3 : Nat) (hn : (4 : Int) ≤ n) (hlen : n = bs.length) (c0 : w.cell? ⟨b, o, none⟩ = some (.int .u8 (z0 : Nat))) (c1 : w.cell? ⟨b, o + 1, none⟩ = some (.int .u8 (z1 : Nat))) (c2 : w.cell? ⟨b, o + 2, none⟩ = some (.int .u8 (z2 : Nat))) (c3 : w.cell? ⟨b, o + 3, none⟩ = some (.int .u8 (z3 : Nat))) (h0 : bits BinOp.and IntKind.u8 (z0 : Nat) 127 = (y0 : Nat)) (k0 : bits BinOp.and IntKind.u8 (z0 : Nat) 128 = 128) (h1 : bits BinOp.and IntKind.u8 (z1 : Nat) 127 = (y1 : Nat)) (k1 : bits BinOp.and IntKind.u8 (z1 : Nat) 128 = 128) (h2 : bits BinOp.and IntKind.u8 (z2 : Nat) 127 = (y2 : Nat)) (k2 : bits BinOp.and IntKind.u8 (z2 : Nat) 128 = 128) (h3 : bits BinOp.and IntKind.u8 (z3 : Nat) 127 = (y3 : Nat)) (k3 : bits BinOp.and IntKind.u8 (z3 : Nat) 128 = 0) (b0 : y0 < 128) (b1 : y1 < 128) (b2 : y2 < 128) (b3 : y3 < 128) (hr : rdUv bs = some (y0 + 128 * y1 + 16384 * y2 + 2097152 * y3, bs.drop 4)) :
    Calls Tryz.prog 94 #[.slice (some ⟨b, o, none⟩) n cap] w (UvOut bs w) := by
  have fin : Ending.returned (.tuple #[.int .u32 (bits BinOp.or IntKind.u32 (bits BinOp.or IntKind.u32 (bits BinOp.or IntKind.u32 (((y0 : Nat) : Int) % 4294967296) ((y1 : Nat) % 4294967296 * 128 % 4294967296)) ((y2 : Nat) % 4294967296 * 16384 % 4294967296)) ((y3 : Nat) % 4294967296 * 2097152 % 4294967296)), .int .i64 4]) = .returned (.tuple #[.int .u32 ((y0 + 128 * y1 + 16384 * y2 + 2097152 * y3 : Nat) : Int), .int .i64 ((4 : Nat) : Int)]) := by
    have e0 : ((y0 : Nat) : Int) % 4294967296 = ((y0 : Nat) : Int) := by omega
    have e1 := u32or' (y0) y1 7 128 128 rfl (by omega) (by omega) (by omega)
    have e2 := u32or' (y0 + 128 * y1) y2 14 16384 16384 rfl (by omega) (by omega) (by omega)
    have e3 := u32or' (y0 + 128 * y1 + 16384 * y2) y3 21 2097152 2097152 rfl (by omega) (by omega) (by omega)
    rw [e0, e1, e2, e3]
    rfl
  have Z := Lib.hid (And.intro hlen (And.intro hr fin))
  clear hlen hr fin b0 b1 b2 b3
  go_enter Tryz.func94, Tryz.ntmps94
  go_wp2
  apply wp_scope_straight
  go_wp2_with fail
  refine noGoto_ret ?_
  go_ret2
  exact .good (k := 4) ⟨by omega, by rw [← Z.out.1]; omega⟩ Z.out.2.1 Z.out.2.2 rfl
set_option maxHeartbeats 2000000 in
theorem uvS5 (bs : List UInt8) (w : World) (b o n cap : Nat) (z0 z1 z2 z3 z4 y0 y1 y2 y3 : Nat) (hn : (5 : Int) ≤ n) (hlen : n = bs.length) (c0 : w.cell? ⟨b, o, none⟩ = some (.int .u8 (z0 : Nat))) (c1 : w.cell? ⟨b, o + 1, none⟩ = some (.int .u8 (z1 : Nat))) (c2 : w.cell? ⟨b, o + 2, none⟩ = some (.int .u8 (z2 : Nat))) (c3 : w.cell? ⟨b, o + 3, none⟩ = some (.int .u8 (z3 : Nat))) (c4 : w.cell? ⟨b, o + 4, none⟩ = some (.int .u8 (z4 : Nat))) (h0 : bits BinOp.and IntKind.u8 (z0 : Nat) 127 = (y0 : Nat)) (k0 : bits BinOp.and IntKind.u8 (z0 : Nat) 128 = 128) (h1 : bits BinOp.and IntKind.u8 (z1 : Nat) 127 = (y1 : Nat)) (k1 : bits BinOp.and IntKind.u8 (z1 : Nat) 128 = 128) (h2 : bits BinOp.and IntKind.u8 (z2 : Nat) 127 = (y2 : Nat)) (k2 : bits BinOp.and IntKind.u8 (z2 : Nat) 128 = 128) (h3 : bits BinOp.and IntKind.u8 (z3 : Nat) 127 = (y3 : Nat)) (k3 : bits BinOp.and IntKind.u8 (z3 : Nat) 128 = 128) (h4 : (z4 : Int) ≤ 15) (b0 : y0 < 128) (b1 : y1 < 128) (b2 : y2 < 128) (b3 : y3 < 128) (b4 : z4 < 16) (hr : rdUv bs = some (y0 + 128 * y1 + 16384 * y2 + 2097152 * y3 + 268435456 * z4, bs.drop 5)) :
    Calls Tryz.prog 94 #[.slice (some ⟨b, o, none⟩) n cap] w (UvOut bs w) := by
  have fin : Ending.returned (.tuple #[.int .u32 (bits BinOp.or IntKind.u32 (bits BinOp.or IntKind.u32 (bits BinOp.or IntKind.u32 (bits BinOp.or IntKind.u32 (((y0 : Nat) : Int) % 4294967296) ((y1 : Nat) % 4294967296 * 128 % 4294967296)) ((y2 : Nat) % 4294967296 * 16384 % 4294967296)) ((y3 : Nat) % 4294967296 * 2097152 % 4294967296)) (((z4 : Nat) : Int) * 268435456)), .int .i64 5]) = .returned (.tuple #[.int .u32 ((y0 + 128 * y1 + 16384 * y2 + 2097152 * y3 + 268435456 * z4 : Nat) : Int), .int .i64 ((5 : Nat) : Int)]) := by
    have e0 : ((y0 : Nat) : Int) % 4294967296 = ((y0 : Nat) : Int) := by omega
    have e1 := u32or' (y0) y1 7 128 128 rfl (by omega) (by omega) (by omega)
    have e2 := u32or' (y0 + 128 * y1) y2 14 16384 16384 rfl (by omega) (by omega) (by omega)
    have e3 := u32or' (y0 + 128 * y1 + 16384 * y2) y3 21 2097152 2097152 rfl (by omega) (by omega) (by omega)
    have e4 := u32or4 (y0 + 128 * y1 + 16384 * y2 + 2097152 * y3) z4 (by omega) b4
    rw [e0, e1, e2, e3, e4]
    rfl
  have Z := Lib.hid (And.intro hlen (And.intro hr fin))
  clear hlen hr fin b0 b1 b2 b3 b4
  go_enter Tryz.func94, Tryz.ntmps94
  go_wp2
  apply wp_scope_straight
  go_wp2_with fail
  refine noGoto_ret ?_
  go_ret2
  exact .good (k := 5) ⟨by omega, by rw [← Z.out.1]; omega⟩ Z.out.2.1 Z.out.2.2 rfl
set_option maxHeartbeats 2000000 in
theorem uvL0 (bs : List UInt8) (w : World) (ad : Option Addr) (n cap : Nat)  (hn : (0 : Int) ≤ n) (hn2 : (n : Int) < 1)   (hr : rdUv bs = none) :
    Calls Tryz.prog 94 #[.slice ad n cap] w (UvOut bs w) := by
  have Z := Lib.hid hr
  clear hr
  go_enter Tryz.func94, Tryz.ntmps94
  go_wp2
  refine wp_scope_jumps 0 (fun a' w' => w = w' ∧ aget a' 5 = .int .i64 0 ∧ a'.tmps.size = 87 ∧ a'.defers = []) (fun _ _ => 0) rfl ?_ ?_
  · go_wp2_with fail
    refine wp_goto ?_
    exact ⟨rfl, rfl, rfl, rfl, rfl⟩
  · rintro a' w' ⟨rfl, h5, hs, hd⟩
    exact uv_rest (fn := Tryz.f94) (R := UvOut bs w) rfl h5 hs hd (.bad (by omega) Z.out rfl rfl) (fun _ _ h => h)
set_option maxHeartbeats 2000000 in
theorem uvL1 (bs : List UInt8) (w : World) (b o n cap : Nat) (z0 y0 : Nat) (hn : (1 : Int) ≤ n) (hn2 : (n : Int) < 2) (c0 : w.cell? ⟨b, o, none⟩ = some (.int .u8 (z0 : Nat))) (h0 : bits BinOp.and IntKind.u8 (z0 : Nat) 127 = (y0 : Nat)) (k0 : bits BinOp.and IntKind.u8 (z0 : Nat) 128 = 128) (hr : rdUv bs = none) :
    Calls Tryz.prog 94 #[.slice (some ⟨b, o, none⟩) n cap] w (UvOut bs w) := by
  have Z := Lib.hid hr
  clear hr
  go_enter Tryz.func94, Tryz.ntmps94
  go_wp2
  refine wp_scope_jumps 0 (fun a' w' => w = w' ∧ aget a' 5 = .int .i64 0 ∧ a'.tmps.size = 87 ∧ a'.defers = []) (fun _ _ => 0) rfl ?_ ?_
  · go_wp2_with fail
    refine wp_goto ?_
    exact ⟨rfl, rfl, rfl, rfl, rfl⟩
  · rintro a' w' ⟨rfl, h5, hs, hd⟩
    exact uv_rest (fn := Tryz.f94) (R := UvOut bs w) rfl h5 hs hd (.bad (by omega) Z.out rfl rfl) (fun _ _ h => h)
set_option maxHeartbeats 2000000 in
theorem uvL2 (bs : List UInt8) (w : World) (b o n cap : Nat) (z0 z1 y0 y1 : Nat) (hn : (2 : Int) ≤ n) (hn2 : (n : Int) < 3) (c0 : w.cell? ⟨b, o, none⟩ = some (.int .u8 (z0 : Nat))) (c1 : w.cell? ⟨b, o + 1, none⟩ = some (.int .u8 (z1 : Nat))) (h0 : bits BinOp.and IntKind.u8 (z0 : Nat) 127 = (y0 : Nat)) (k0 : bits BinOp.and IntKind.u8 (z0 : Nat) 128 = 128) (h1 : bits BinOp.and IntKind.u8 (z1 : Nat) 127 = (y1 : Nat)) (k1 : bits BinOp.and IntKind.u8 (z1 : Nat) 128 = 128) (hr : rdUv bs = none) :
    Calls Tryz.prog 94 #[.slice (some ⟨b, o, none⟩) n cap] w (UvOut bs w) := by
  have Z := Lib.hid hr
  clear hr
  go_enter Tryz.func94, Tryz.ntmps94
  go_wp2
  refine wp_scope_jumps 0 (fun a' w' => w = w' ∧ aget a' 5 = .int .i64 0 ∧ a'.tmps.size = 87 ∧ a'.defers = []) (fun _ _ => 0) rfl ?_ ?_
  · go_wp2_with fail
    refine wp_goto ?_
    exact ⟨rfl, rfl, rfl, rfl, rfl⟩
  · rintro a' w' ⟨rfl, h5, hs, hd⟩
    exact uv_rest (fn := Tryz.f94) (R := UvOut bs w) rfl h5 hs hd (.bad (by omega) Z.out rfl rfl) (fun _ _ h => h)
set_option maxHeartbeats 2000000 in
theorem uvL3 (bs : List UInt8) (w : World) (b o n cap : Nat) (z0 z1 z2 y0 y1 y2 : Nat) (hn : (3 : Int) ≤ n) (hn2 : (n : Int) < 4) (c0 : w.cell? ⟨b, o, none⟩ = some (.int .u8 (z0 : Nat))) (c1 : w.cell? ⟨b, o + 1, none⟩ = some (.int .u8 (z1 : Nat))) (c2 : w.cell? ⟨b, o + 2, none⟩ = some (.int .u8 (z2 : Nat))) (h0 : bits BinOp.and IntKind.u8 (z0 : Nat) 127 = (y0 : Nat)) (k0 : bits BinOp.and IntKind.u8 (z0 : Nat) 128 = 128) (h1 : bits BinOp.and IntKind.u8 (z1 : Nat) 127 = (y1 : Nat)) (k1 : bits BinOp.and IntKind.u8 (z1 : Nat) 128 = 128) (h2 : bits BinOp.and IntKind.u8 (z2 : Nat) 127 = (y2 : Nat)) (k2 : bits BinOp.and IntKind.u8 (z2 : Nat) 128 = 128) (hr : rdUv bs = none) :
    Calls Tryz.prog 94 #[.slice (some ⟨b, o, none⟩) n cap] w (UvOut bs w) := by
  have Z := Lib.hid hr
  clear hr
  go_enter Tryz.func94, Tryz.ntmps94
  go_wp2
  refine wp_scope_jumps 0 (fun a' w' => w = w' ∧ aget a' 5 = .int .i64 0 ∧ a'.tmps.size = 87 ∧ a'.defers = []) (fun _ _ => 0) rfl ?_ ?_
  · go_wp2_with fail
    refine wp_goto ?_
    exact ⟨rfl, rfl, rfl, rfl, rfl⟩
  · rintro a' w' ⟨rfl, h5, hs, hd⟩
    exact uv_rest (fn := Tryz.f94) (R := UvOut bs w) rfl h5 hs hd (.bad (by omega) Z.out rfl rfl) (fun _ _ h => h)
set_option maxHeartbeats 2000000 in
theorem uvL4 (bs : List UInt8) (w : World) (b o n cap : Nat) (z0 z1 z2 z3 y0 y1 y2 y3 : Nat) (hn : (4 : Int) ≤ n) (hn2 : (n : Int) < 5) (c0 : w.cell? ⟨b, o, none⟩ = some (.int .u8 (z0 : Nat))) (c1 : w.cell? ⟨b, o + 1, none⟩ = some (.int .u8 (z1 : Nat))) (c2 : w.cell? ⟨b, o + 2, none⟩ = some (.int .u8 (z2 : Nat))) (c3 : w.cell? ⟨b, o + 3, none⟩ = some (.int .u8 (z3 : Nat))) (h0 : bits BinOp.and IntKind.u8 (z0 : Nat) 127 = (y0 : Nat)) (k0 : bits BinOp.and IntKind.u8 (z0 : Nat) 128 = 128) (h1 : bits BinOp.and IntKind.u8 (z1 : Nat) 127 = (y1 : Nat)) (k1 : bits BinOp.and IntKind.u8 (z1 : Nat) 128 = 128) (h2 : bits BinOp.and IntKind.u8 (z2 : Nat) 127 = (y2 : Nat)) (k2 : bits BinOp.and IntKind.u8 (z2 : Nat) 128 = 128) (h3 : bits BinOp.and IntKind.u8 (z3 : Nat) 127 = (y3 : Nat)) (k3 : bits BinOp.and IntKind.u8 (z3 : Nat) 128 = 128) (hr : rdUv bs = none) :
    Calls Tryz.prog 94 #[.slice (some ⟨b, o, none⟩) n cap] w (UvOut bs w) := by
  have Z := Lib.hid hr
  clear hr
  go_enter Tryz.func94, Tryz.ntmps94
  go_wp2
  refine wp_scope_jumps 0 (fun a' w' => w = w' ∧ aget a' 5 = .int .i64 0 ∧ a'.tmps.size = 87 ∧ a'.defers = []) (fun _ _ => 0) rfl ?_ ?_
  · go_wp2_with fail
    refine wp_goto ?_
    exact ⟨rfl, rfl, rfl, rfl, rfl⟩
  · rintro a' w' ⟨rfl, h5, hs, hd⟩
    exact uv_rest (fn := Tryz.f94) (R := UvOut bs w) rfl h5 hs hd (.bad (by omega) Z.out rfl rfl) (fun _ _ h => h)
set_option maxHeartbeats 2000000 in
theorem uvOver (bs : List UInt8) (w : World) (b o n cap : Nat) (z0 z1 z2 z3 z4 y0 y1 y2 y3 : Nat) (hn : (5 : Int) ≤ n) (c0 : w.cell? ⟨b, o, none⟩ = some (.int .u8 (z0 : Nat))) (c1 : w.cell? ⟨b, o + 1, none⟩ = some (.int .u8 (z1 : Nat))) (c2 : w.cell? ⟨b, o + 2, none⟩ = some (.int .u8 (z2 : Nat))) (c3 : w.cell? ⟨b, o + 3, none⟩ = some (.int .u8 (z3 : Nat))) (c4 : w.cell? ⟨b, o + 4, none⟩ = some (.int .u8 (z4 : Nat))) (h0 : bits BinOp.and IntKind.u8 (z0 : Nat) 127 = (y0 : Nat)) (k0 : bits BinOp.and IntKind.u8 (z0 : Nat) 128 = 128) (h1 : bits BinOp.and IntKind.u8 (z1 : Nat) 127 = (y1 : Nat)) (k1 : bits BinOp.and IntKind.u8 (z1 : Nat) 128 = 128) (h2 : bits BinOp.and IntKind.u8 (z2 : Nat) 127 = (y2 : Nat)) (k2 : bits BinOp.and IntKind.u8 (z2 : Nat) 128 = 128) (h3 : bits BinOp.and IntKind.u8 (z3 : Nat) 127 = (y3 : Nat)) (k3 : bits BinOp.and IntKind.u8 (z3 : Nat) 128 = 128) (h4 : ¬ (z4 : Int) ≤ 15) (hr : rdUv bs = none) :
    Calls Tryz.prog 94 #[.slice (some ⟨b, o, none⟩) n cap] w (UvOut bs w) := by
  have Z := Lib.hid hr
  clear hr
  go_enter Tryz.func94, Tryz.ntmps94
  go_wp2
  apply wp_scope_straight
  go_wp2_with fail
  refine wp_label ?_
  go_wp2_with fail
  refine noGoto_ret ?_
  go_ret2
  exact .bad (n := -5) (by omega) Z.out rfl rfl
end Go.Proofs.YtmpilpgabelmiaaGreatDoor
