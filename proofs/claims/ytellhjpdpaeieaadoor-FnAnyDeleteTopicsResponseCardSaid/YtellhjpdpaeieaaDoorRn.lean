/- The code that reads a list: its count, the room, the loop, the store. -/
import Derived.Test.YtellhjpdpaeieaaDoorRl
namespace Go.Proofs.YtellhjpdpaeieaaDoor
open Go Go.RowKit
set_option linter.unusedVariables false

section
variable {RT : RTags} {P : Program} {N nt gE : Nat} {E : Value} {K : Slots} {lo t : Nat} {ver : Int} {flex : Bool}
/-- What is asked of Ok and Complete. -/
def OkC (P : Program) (F : Nat) : Prop := ∀ (O : List Nat) (rb : Nat) (w : World) (st : Option (List UInt8)), Rdr O w rb st → Calls P F #[.pointer (some ⟨rb, 0, none⟩)] w fun e w' => e = .returned (.bool st.isSome) ∧ w = w'
def CompleteC (P : Program) (F gE : Nat) (E : Value) : Prop := ∀ (O : List Nat) (rb : Nat) (w : World) (st : Option (List UInt8)), Rdr O w rb st → w.cell? ⟨gE, 0, none⟩ = some E → Calls P F #[.pointer (some ⟨rb, 0, none⟩)] w fun e w' => e = .returned (if st.isSome then .nilIface else E) ∧ w = w'
theorem wl_not {w : World} {ops : Array Oper} {rest : List Oper} {a : Act} {Q : Exit → Act → World → Prop} {d s T : Nat} {ty : TypeId} {pos : String} {af : Array Edge} {x : Bool} (hs : aget a s = .bool x) (h : wpList P ops Q rest (a.put (some d) (.bool (!x))) w) :
    wpList P ops Q (⟨some d, .unOp .not T (.tmp s), ty, pos, af, none⟩ :: rest) a w :=
  wl_value (v := .bool (!x)) (w' := w) rfl (by simp [execOp, aget_eval, hs, Op.unary]) h
/-- 'return b.Complete()'. -/
theorem reg_complete {bp rs t1 F r ty1 ty2 : Nat} {p1 p2 : String} {e1 e2 : Array Edge} {at_ : Array TypeId} {O : List Nat} {w : World} {rb : Nat} {st : Option (List UInt8)} {a : Act} {Q : Exit → Act → World → Prop} (he : Enters P F) (hC : CompleteC P F gE E)
    (hN : a.tmps.size = nt) (hbp : aget a bp = .pointer (some ⟨rb, 0, none⟩)) (hr : Rdr O w rb st) (hE : w.cell? ⟨gE, 0, none⟩ = some E) (hd : t1 < nt ∧ rs < nt)
    (h : ∀ a', a'.tmps.size = nt → a'.defers = a.defers → aget a' rs = (if st.isSome then .nilIface else E) → Q .ret a' w) :
    ((Code.region r #[⟨some t1, .call { callee := .value (.func F), args := #[.tmp bp], argTypes := at_ }, ty1, p1, e1, none⟩, ⟨some rs, .assign (.tmp t1), ty2, p2, e2, none⟩] false).seq .ret).wp P Q a w := by
  refine wp_seq (wp_reg ?_)
  refine wl_call (R := fun e w' => e = .returned (if st.isSome then .nilIface else E) ∧ w = w') he ?_ ?_
  · simp only [List.map_toArray, List.map_cons, List.map_nil, aget_eval]
    rw [hbp]
    exact hC O rb w st hr hE
  rintro e w' ⟨rfl, rfl⟩
  refine ⟨_, rfl, ?_⟩
  refine wl_assign (aget_put_same _ _ _ (by rw [hN]; omega)) ?_
  refine wpList_nil (wp_ret (h _ (by simp only [size_put, hN]) (by simp only [defers_put]) (aget_put_same _ _ _ (by simp only [size_put]; omega))))
/-- 'if !b.Ok() { return b.Complete() }'. -/
theorem reg_ok {bp rs t1 t2 F F2 U r r2 ty1 ty2 ty3 ty4 : Nat} {p1 p2 p3 p4 : String} {e1 e2 e3 e4 : Array Edge} {at_ at2 : Array TypeId} {O : List Nat} {w : World} {rb : Nat} {st : Option (List UInt8)} {a : Act} {Q : Exit → Act → World → Prop} (he : Enters P F) (hO : OkC P F) (he2 : Enters P F2) (hC : CompleteC P F2 gE E)
    (hN : a.tmps.size = nt) (hbp : aget a bp = .pointer (some ⟨rb, 0, none⟩)) (hr : Rdr O w rb st) (hE : w.cell? ⟨gE, 0, none⟩ = some E) (hD : Dims N nt lo t) (hd : t ≤ t1 ∧ t1 + 1 < nt ∧ t2 < nt ∧ rs < nt ∧ bp ≠ t1 ∧ bp ≠ t1 + 1)
    (hq : ∀ a', st.isSome = true → Fr N lo t nt a a' → (∀ s, s < N → aget a' s = aget a s) → Q .normal a' w) (hret : ∀ a', st = none → a'.tmps.size = nt → a'.defers = a.defers → aget a' rs = E → Q .ret a' w) :
    ((Code.region r #[⟨some t1, .call { callee := .value (.func F), args := #[.tmp bp], argTypes := at_ }, ty1, p1, e1, none⟩, ⟨some (t1 + 1), .unOp .not U (.tmp t1), ty2, p2, e2, none⟩] false).seq
      (.cond (.tmp (t1 + 1)) ((Code.region r2 #[⟨some t2, .call { callee := .value (.func F2), args := #[.tmp bp], argTypes := at2 }, ty3, p3, e3, none⟩, ⟨some rs, .assign (.tmp t2), ty4, p4, e4, none⟩] false).seq .ret) .skip)).wp P Q a w := by
  have g2 := hD.dLo; have g3 := hD.dT; have g4 := hD.dN
  refine wp_seq (wp_reg ?_)
  refine wl_call (R := fun e w' => e = .returned (.bool st.isSome) ∧ w = w') he ?_ ?_
  · simp only [List.map_toArray, List.map_cons, List.map_nil, aget_eval]
    rw [hbp]
    exact hO O rb w st hr
  rintro e w' ⟨rfl, rfl⟩
  refine ⟨_, rfl, ?_⟩
  refine wl_not (x := st.isSome) (aget_put_same _ _ _ (by rw [hN]; omega)) ?_
  refine wpList_nil ?_
  have hf : Fr N lo t nt a ((a.put (some t1) (.bool st.isSome)).put (some (t1 + 1)) (.bool (!st.isSome))) := ((Fr.refl N lo t nt a).put _ _ (by omega)).put _ _ (by omega)
  have hx : aget ((a.put (some t1) (.bool st.isSome)).put (some (t1 + 1)) (.bool (!st.isSome))) (t1 + 1) = .bool (!st.isSome) := aget_put_same _ _ _ (by simp only [size_put]; omega)
  have hs : ∀ s, s < N → aget ((a.put (some t1) (.bool st.isSome)).put (some (t1 + 1)) (.bool (!st.isSome))) s = aget a s := fun s h => by rw [aget_put_other _ _ _ s (by omega), aget_put_other _ _ _ s (by omega)]
  have hb2 : aget ((a.put (some t1) (.bool st.isSome)).put (some (t1 + 1)) (.bool (!st.isSome))) bp = .pointer (some ⟨rb, 0, none⟩) := by rw [aget_put_other _ _ _ _ (by omega), aget_put_other _ _ _ _ (by omega)]; exact hbp
  generalize ((a.put (some t1) (.bool st.isSome)).put (some (t1 + 1)) (.bool (!st.isSome))) = a2 at *
  cases st with
  | none =>
    refine wp_cond_true hx ?_
    exact reg_complete he2 hC (hf.size.trans hN) hb2 hr hE ⟨by omega, by omega⟩ fun a' h1 h2 h3 => hret a' rfl h1 (h2.trans hf.defers) h3
  | some bs => exact wp_cond_false hx (wp_skip (hq a2 rfl hf hs))
/-- The code c reads a count into slot l. -/
def RdLn (P : Program) (N nt gE : Nat) (E : Value) (flex : Bool) (K : Slots) (lo t bp : Nat) (c : Code) (l : Nat) : Prop :=
  ∀ (O : List Nat) (rb b T : Nat) (a : Act) (w : World) (cs : List Value) (st : Option (List UInt8)) (Q : Exit → Act → World → Prop), a.tmps.size = nt → Holds ((bp, .pointer (some ⟨rb, 0, none⟩)) :: K) a → RSt gE E O w rb b cs T st →
    (∀ a' w' n, aget a' l = .int .i32 n → RSt gE E O w' rb b cs T ((st.bind (rdLen flex)).map (·.2)) → Fr N lo t nt a a' → (∀ s, s ≠ l → s < N → aget a' s = aget a s) → Keeps [rb] w w' → (∀ m r, st.bind (rdLen flex) = some (m, r) → m = n) → Q .normal a' w') → c.wp P Q a w
theorem rdLn_call {bp l t1 F r ty1 ty2 : Nat} {p1 p2 : String} {e1 e2 : Array Edge} {at_ : Array TypeId} (he : Enters P F) (hC : RdC P F (rdLen flex) (fun _ _ v n => v = .int .i32 n) (fun v => ∃ n, v = .int .i32 n)) (hD : Dims N nt lo t) (hd : t ≤ t1 ∧ t1 < nt ∧ lo ≤ l ∧ l < N) :
    RdLn P N nt gE E flex K lo t bp (Code.region r #[⟨some t1, .call { callee := .value (.func F), args := #[.tmp bp], argTypes := at_ }, ty1, p1, e1, none⟩, ⟨some l, .assign (.tmp t1), ty2, p2, e2, none⟩] false) l := by
  intro O rb b T a w cs st Q hN hh hst hq
  obtain ⟨d1, d2, d3, d4⟩ := hd
  have g2 := hD.dLo; have g3 := hD.dT; have g4 := hD.dN
  refine wp_reg ?_
  refine wl_call (R := RdPost (rdLen flex) (fun _ _ v n => v = .int .i32 n) (fun v => ∃ n, v = .int .i32 n) O rb w st) he ?_ ?_
  · simp only [List.map_toArray, List.map_cons, List.map_nil, aget_eval]
    rw [hh.head]
    exact hC O rb w st hst.rbO hst.lt hst.rdr
  rintro e w' ⟨v, rfl, hr, hk, hbad, hgood⟩
  refine ⟨v, rfl, ?_⟩
  obtain ⟨n, rfl, hn⟩ : ∃ n, v = .int .i32 n ∧ ∀ m r, st.bind (rdLen flex) = some (m, r) → m = n := by
    cases hx : st.bind (rdLen flex) with
    | none =>
      obtain ⟨n, rfl⟩ := hbad hx
      exact ⟨n, rfl, fun m r h => nomatch h⟩
    | some q =>
      refine ⟨q.1, hgood q.1 q.2 hx, fun m r h => ?_⟩
      cases h
      rfl
  refine wl_assign (aget_put_same _ _ _ (by rw [hN]; omega)) ?_
  refine wpList_nil (hq _ w' n (aget_put_same _ _ _ (by simp only [size_put]; omega)) (hst.call hr hk) (((Fr.refl N lo t nt a).put _ _ (by omega)).put _ _ (by omega)) (fun s h1 h2 => ?_) hk hn)
  rw [aget_put_other _ _ _ s (by omega), aget_put_other _ _ _ s (by omega)]
theorem rdLn_flag {bp l sf t1 r ty1 : Nat} {p1 : String} {e1 : Array Edge} {c1 c2 : Code} (hk : KOK N lo t ((bp, .int .i64 0) :: K)) (hf : (sf, Value.bool flex) ∈ K) (hD : Dims N nt lo t) (hd : t ≤ t1 ∧ t1 < nt)
    (h1 : flex = true → RdLn P N nt gE E flex K lo t bp c1 l) (h2 : flex = false → RdLn P N nt gE E flex K lo t bp c2 l) :
    RdLn P N nt gE E flex K lo t bp ((Code.region r #[⟨some t1, .move (.tmp sf), ty1, p1, e1, none⟩] false).seq (.cond (.tmp t1) c1 c2)) l := by
  intro O rb b T a w cs st Q hN hh hst hq
  have g2 := hD.dLo; have g3 := hD.dT; have g4 := hD.dN
  have hk' : KOK N lo t ((bp, .pointer (some ⟨rb, 0, none⟩)) :: K) := fun p hp => by
    simp only [List.mem_cons] at hp
    rcases hp with rfl | hp
    · exact hk (bp, .int .i64 0) (by simp)
    · exact hk p (by simp [hp])
  refine wp_seq (wp_reg (wl_move (hh _ (List.mem_cons_of_mem _ hf)) (wpList_nil ?_)))
  have hfr : Fr N lo t nt a (a.put (some t1) (.bool flex)) := (Fr.refl N lo t nt a).put _ _ (by omega)
  have hx : aget (a.put (some t1) (.bool flex)) t1 = .bool flex := aget_put_same _ _ _ (by omega)
  have hs : ∀ s, s < N → aget (a.put (some t1) (.bool flex)) s = aget a s := fun s h => aget_put_other _ _ _ _ (by omega)
  generalize a.put (some t1) (.bool flex) = a1 at *
  cases flex
  · exact wp_cond_false hx (h2 rfl O rb b T a1 w cs st Q (hfr.size.trans hN) (hh.frR hk' hD hfr) hst fun a2 w2 n k1 k2 k3 k4 => hq a2 w2 n k1 k2 (hfr.trans k3) fun s q1 q2 => (k4 s q1 q2).trans (hs s q2))
  · exact wp_cond_true hx (h1 rfl O rb b T a1 w cs st Q (hfr.size.trans hN) (hh.frR hk' hD hfr) hst fun a2 w2 n k1 k2 k3 k4 => hq a2 w2 n k1 k2 (hfr.trans k3) fun s q1 q2 => (k4 s q1 q2).trans (hs s q2))
theorem rd_list (ver : Int) (flex : Bool) (nul : Option Int) (z : Nat) (e : Sch) (st : Option (List UInt8)) : st.bind (rd ver flex (.list nul z e)) = (st.bind (rdLen flex)).bind fun q => (if q.1 < 0 ∧ nullAt nul ver = true then some (.null, q.2) else (rdMany (rd ver flex e) q.1.toNat q.2).bind fun r => some (.list r.1, r.2)) := by
  have h : rd ver flex (.list nul z e) = (rdLen flex).bind fun n => if n < 0 ∧ nullAt nul ver = true then .pure .null else (rdMany (rd ver flex e) n.toNat).bind fun l => .pure (.list l) := rfl
  rw [h, bind_st]
  congr 1
  funext q
  split
  · rfl
  · cases hx : rdMany (rd ver flex e) q.1.toNat q.2 with
    | none => rw [bind_none hx]; rfl
    | some r => rw [bind_eq (v := r.1) (r := r.2) hx]; rfl
end
end Go.Proofs.YtellhjpdpaeieaaDoor
