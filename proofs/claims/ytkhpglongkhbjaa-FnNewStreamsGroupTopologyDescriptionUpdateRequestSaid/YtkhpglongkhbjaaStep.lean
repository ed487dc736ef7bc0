/- Single operations over a frame that is a variable: what each asks and what it leaves. Any program. -/
import Derived.Test.YtkhpglongkhbjaaAppend
import Derived.Test.YtkhpglongkhbjaaSch
namespace Go.Proofs.Ytkhpglongkhbjaa
open Go Go.RowKit

/-- What a slot holds. -/
def aget (a : Act) (i : Nat) : Value := a.tmps.getD i undef
theorem aget_eval (a : Act) (i : Nat) : a.eval (.tmp i) = aget a i := rfl
theorem aget_put (a : Act) (d : Nat) (v : Value) (i : Nat) : aget (a.put (some d) v) i = if d = i ∧ d < a.tmps.size then v else aget a i := by
  unfold aget Act.put
  simp only [Array.getD_eq_getD_getElem?, Array.getElem?_setIfInBounds]
  by_cases h : d = i
  · subst h
    by_cases h2 : d < a.tmps.size <;> simp [h2]
  · simp [h]
theorem aget_put_same (a : Act) (d : Nat) (v : Value) (h : d < a.tmps.size) : aget (a.put (some d) v) d = v := by simp [aget_put, h]
theorem aget_put_other (a : Act) (d : Nat) (v : Value) (i : Nat) (h : d ≠ i) : aget (a.put (some d) v) i = aget a i := by simp [aget_put, h]
theorem size_put (a : Act) (d : Option Nat) (v : Value) : (a.put d v).tmps.size = a.tmps.size := by cases d <;> simp [Act.put]
theorem defers_put (a : Act) (d : Option Nat) (v : Value) : (a.put d v).defers = a.defers := by cases d <;> rfl

/-- The slots that may be written: the named ones from lo on, and the nameless ones (from N on) from t on; slot x beside them. All else is as it was. -/
structure Fr (N lo t x : Nat) (a a' : Act) : Prop where
  size : a'.tmps.size = a.tmps.size
  defers : a'.defers = a.defers
  same : ∀ i, i ≠ x → (i < lo ∨ (N ≤ i ∧ i < t)) → aget a' i = aget a i
theorem Fr.refl (N lo t x : Nat) (a : Act) : Fr N lo t x a a := ⟨rfl, rfl, fun _ _ _ => rfl⟩
theorem Fr.trans {N lo t x : Nat} {a b c : Act} (h : Fr N lo t x a b) (k : Fr N lo t x b c) : Fr N lo t x a c :=
  ⟨k.size.trans h.size, k.defers.trans h.defers, fun i hx hi => (k.same i hx hi).trans (h.same i hx hi)⟩
theorem Fr.mono {N lo t lo' t' x : Nat} {a b : Act} (h : Fr N lo t x a b) (h1 : lo' ≤ lo) (h2 : t' ≤ t) : Fr N lo' t' x a b :=
  ⟨h.size, h.defers, fun i hx hi => h.same i hx (by omega)⟩
theorem Fr.put {N lo t x : Nat} {a b : Act} (h : Fr N lo t x a b) (d : Nat) (v : Value) (hd : d = x ∨ (lo ≤ d ∧ (d < N ∨ t ≤ d))) : Fr N lo t x a (b.put (some d) v) :=
  ⟨(size_put _ _ _).trans h.size, (defers_put _ _ _).trans h.defers, fun i hx hi => (aget_put_other _ _ _ _ (by omega)).trans (h.same i hx hi)⟩

section ops
variable {P : Program} {w : World} {ops : Array Oper} {rest : List Oper} {a : Act} {Q : Exit → Act → World → Prop} {d : Nat} {ty : TypeId} {pos : String} {af : Array Edge}

theorem wl_value {o : Oper} {v : Value} {w' : World} (hg : o.guard = none) (hr : (execOp a.eval o).run P w = .ok (.value v) w') (h : wpList P ops Q rest (a.put o.dst v) w') : wpList P ops Q (o :: rest) a w :=
  wpList_plain hg fun _ hK => by
    unfold Oper.wp
    rw [hr]
    exact hK _ _ h
theorem wl_skip {o : Oper} {w' : World} (hg : o.guard = none) (hr : (execOp a.eval o).run P w = .ok .skip w') (h : wpList P ops Q rest (a.put o.dst undef) w') : wpList P ops Q (o :: rest) a w :=
  wpList_plain hg fun _ hK => by
    unfold Oper.wp
    rw [hr]
    exact hK _ _ h
theorem wl_store {U : Nat} {x y : Operand} {w' : World} (hr : (Instr.storeAt U (a.eval x) (a.eval y)).run P w = .ok () w') (h : wpList P ops Q rest a w') : wpList P ops Q (⟨none, .store U x y, ty, pos, af, none⟩ :: rest) a w :=
  wl_skip (w' := w') rfl (by simp [execOp, hr]) h
theorem wl_move {s : Nat} {v : Value} (hs : aget a s = v) (h : wpList P ops Q rest (a.put (some d) v) w) : wpList P ops Q (⟨some d, .move (.tmp s), ty, pos, af, none⟩ :: rest) a w :=
  wl_value rfl (by simp [execOp, aget_eval, hs]) h
theorem wl_assign {s : Nat} {v : Value} (hs : aget a s = v) (h : wpList P ops Q rest (a.put (some d) v) w) : wpList P ops Q (⟨some d, .assign (.tmp s), ty, pos, af, none⟩ :: rest) a w :=
  wl_value rfl (by simp [execOp, aget_eval, hs]) h
theorem wl_move_c {v : Value} (h : wpList P ops Q rest (a.put (some d) v) w) : wpList P ops Q (⟨some d, .move (.const v), ty, pos, af, none⟩ :: rest) a w :=
  wl_value rfl (by simp [execOp, Act.eval]) h
theorem wl_assign_c {v : Value} (h : wpList P ops Q rest (a.put (some d) v) w) : wpList P ops Q (⟨some d, .assign (.const v), ty, pos, af, none⟩ :: rest) a w :=
  wl_value rfl (by simp [execOp, Act.eval]) h
theorem wl_nilCheck {s : Nat} {ad : Addr} (hs : aget a s = .pointer (some ad)) (h : wpList P ops Q rest (a.put (some d) (.pointer (some ad))) w) : wpList P ops Q (⟨some d, .nilCheck (.tmp s), ty, pos, af, none⟩ :: rest) a w :=
  wl_value rfl (by simp [execOp, aget_eval, hs]) h

/-- Field k of the struct T lies off cells behind its address. -/
def FieldAt (P : Program) (T k off : Nat) : Prop := ∀ (ad : Addr) (w : World), (Instr.fieldAt T (.pointer (some ad)) k).run P w = .ok (.pointer (some (ad.add off))) w
theorem fieldAt_of {P : Program} {T k : Nat} {fs : Array Field} {f : Field} {i : TypeInfo} (h1 : P.underlying T = some (.struct fs)) (h2 : fs[k]? = some f) (h3 : P.info? f.type = some i) (h4 : i.size ≠ 0) : FieldAt P T k f.offset := by
  intro ad w
  simp [Instr.fieldAt, run_underlying h1, h2, Instr.sureAddr, fieldPlace, sizeOf, typeInfo, h3, h4]
theorem fieldAt_mk {P : Program} {T k off ft : Nat} {fs : Array Field} {i : TypeInfo} (h1 : P.underlying T = some (.struct fs)) (h2 : (fs[k]?).map (fun f => (f.offset, f.type)) = some (off, ft)) (h3 : P.info? ft = some i) (h4 : i.size ≠ 0) : FieldAt P T k off := by
  cases hf : fs[k]? with
  | none => simp [hf] at h2
  | some f =>
    simp [hf] at h2
    obtain ⟨rfl, rfl⟩ := h2
    exact fieldAt_of h1 hf h3 h4
theorem wl_fieldAddr {T k off s : Nat} (hf : FieldAt P T k off) {ad : Addr} (hs : aget a s = .pointer (some ad)) (h : wpList P ops Q rest (a.put (some d) (.pointer (some (ad.add off)))) w) :
    wpList P ops Q (⟨some d, .fieldAddr T (.tmp s) k, ty, pos, af, none⟩ :: rest) a w :=
  wl_value (v := .pointer (some (ad.add off))) (w' := w) rfl (by simp [execOp, aget_eval, hs, hf ad w]) h

/-- A variable of type U is one cell. -/
def OneCell (P : Program) (U : Nat) : Prop := (∀ w, (isAgg U).run P w = .ok false w) ∧ ∃ i, P.info? U = some i ∧ i.size = 1
theorem run_load_one {U : Nat} (hU : OneCell P U) {ad : Addr} {x : Value} (hc : w.cell? ad = some x) : (Instr.loadAt U (.pointer (some ad))).run P w = .ok x w := by
  simp [Instr.loadAt, Instr.sureAddr, loadVar, hU.1 w, hc]
theorem wl_load {U s : Nat} (hU : OneCell P U) {ad : Addr} {x : Value} (hs : aget a s = .pointer (some ad)) (hc : w.cell? ad = some x) (h : wpList P ops Q rest (a.put (some d) x) w) :
    wpList P ops Q (⟨some d, .load U (.tmp s), ty, pos, af, none⟩ :: rest) a w :=
  wl_value (v := x) (w' := w) rfl (by simp [execOp, aget_eval, hs, run_load_one hU hc]) h

/-- Function f has a body: a call enters it. -/
def Enters (P : Program) (f : Nat) : Prop := ∀ (args : Array Value) (w : World), (callFunc f args).run P w = .ok (.enter f args) w
theorem wl_call {f : Nat} {args : Array Operand} {at_ : Array TypeId} {R : Ending → World → Prop} (he : Enters P f) (hc : Calls P f (args.map a.eval) w R)
    (h : ∀ e w', R e w' → ∃ v, e = .returned v ∧ wpList P ops Q rest (a.put (some d) v) w') : wpList P ops Q (⟨some d, .call { callee := .value (.func f), args := args, argTypes := at_ }, ty, pos, af, none⟩ :: rest) a w := by
  refine wpList_plain rfl fun K hK => ?_
  have hr : (execOp a.eval ⟨some d, .call { callee := .value (.func f), args := args, argTypes := at_ }, ty, pos, af, none⟩).run P w = .ok (.enter f (args.map a.eval)) w := by
    simp [execOp, resolve, Act.eval, Deferred.ofValue, invoke, he (args.map a.eval) w]
  unfold Oper.wp
  rw [hr]
  refine hc.mono fun e w' hR => ?_
  obtain ⟨v, rfl, hw⟩ := h e w' hR
  exact hK _ _ hw
theorem wl_len_slice {t s : Nat} {e : Nat} (ht : P.underlying t = some (.slice e)) {ad : Option Addr} {n c : Nat} (hs : aget a s = .slice ad n c) (h : wpList P ops Q rest (a.put (some d) (.int .i64 n)) w) :
    wpList P ops Q (⟨some d, .call { callee := .builtin .len, args := #[.tmp s], argTypes := #[t] }, ty, pos, af, none⟩ :: rest) a w :=
  wl_value (v := .int .i64 n) (w' := w) rfl (by simp [execOp, resolve, invoke, builtin, Builtin.len_, aget_eval, hs, run_underlying ht, goInt]) h
theorem wl_bin {op : BinOp} {t u s : Nat} {x y : Value} {r : Value} (hs : aget a s = x) (hg : eqGuard op t (.tmp s) (.const y) x y = pure ()) (hr : (binOp op t x y).run P w = .ok r w) (h : wpList P ops Q rest (a.put (some d) r) w) :
    wpList P ops Q (⟨some d, .binOp op t (.tmp s) (.const y) u, ty, pos, af, none⟩ :: rest) a w :=
  wl_value (v := r) (w' := w) rfl (by
    have e1 : a.eval (.tmp s) = x := hs
    have e2 : a.eval (.const y) = y := rfl
    simp [execOp, e1, e2, hg, hr]) h
theorem wl_bin2 {op : BinOp} {t u s s' : Nat} {x y : Value} {r : Value} (hs : aget a s = x) (hs' : aget a s' = y) (hg : eqGuard op t (.tmp s) (.tmp s') x y = pure ()) (hr : (binOp op t x y).run P w = .ok r w) (h : wpList P ops Q rest (a.put (some d) r) w) :
    wpList P ops Q (⟨some d, .binOp op t (.tmp s) (.tmp s') u, ty, pos, af, none⟩ :: rest) a w :=
  wl_value (v := r) (w' := w) rfl (by
    have e1 : a.eval (.tmp s) = x := hs
    have e2 : a.eval (.tmp s') = y := hs'
    simp [execOp, e1, e2, hg, hr]) h
theorem wl_index {t e s s' esz : Nat} (ht : P.underlying t = some (.slice e)) (he : ∃ i, P.info? e = some i ∧ i.size = esz) {ad : Addr} {n c : Nat} {k : Nat} (hk : k < n) (hs : aget a s = .slice (some ad) n c) (hs' : aget a s' = .int .i64 k)
    (h : wpList P ops Q rest (a.put (some d) (.pointer (some (ad.add (k * esz))))) w) : wpList P ops Q (⟨some d, .indexAddr t (.tmp s) (.tmp s'), ty, pos, af, none⟩ :: rest) a w := by
  obtain ⟨i, hi, rfl⟩ := he
  refine wl_value (v := .pointer (some (ad.add (k * i.size)))) (w' := w) rfl ?_ h
  have h1 : (0 : Int) ≤ k ∧ (k : Int) < n := by omega
  simp [execOp, aget_eval, hs, hs', Instr.indexAt, asIntOf, run_underlying ht, sizeOf, typeInfo, hi, h1]
  exact fun hx => absurd hx (by omega)

end ops
end Go.Proofs.Ytkhpglongkhbjaa
