/- What kbin writes, told more narrowly: blocks of another kind than octets stay, wherever they lie. -/
import Derived.Test.YtfchajjllhndlaaKa
import Derived.Lib.Hide
namespace Go.Proofs.Ytfchajjllhndlaa.makeOld
open Go Go.RowKit
set_option linter.unusedVariables false

/-- Below base nothing has turned, and no block of another kind than octets has. -/
structure Bel (base : Nat) (w w' : World) : Prop where
  bel : Below base w w'
  fr : ∀ (k T : Nat) (c : List Value), T ≠ 5 → Blk w k c T → Blk w' k c T
theorem Bel.refl (base : Nat) (w : World) : Bel base w w := ⟨Below.refl base w, fun _ _ _ _ h => h⟩
theorem Bel.trans {base : Nat} {a b c : World} (h : Bel base a b) (k : Bel base b c) : Bel base a c := ⟨h.bel.trans k.bel, fun i T l hT hB => k.fr i T l hT (h.fr i T l hT hB)⟩
theorem Bel.size {base : Nat} {a b : World} (h : Bel base a b) : a.heap.size ≤ b.heap.size := h.bel.size
theorem blk_grown {base n : Nat} {w w' : World} {v : Value} {xs : List Value} (hown : w.ownsRow base 5 1 v n xs) (hg : w.grownBy w' v.ownBlock) {k T : Nat} {c : List Value} (hT : T ≠ 5) (hB : Blk w k c T) : Blk w' k c T := by
  rcases hown.2 with ⟨rfl, -⟩ | ⟨g, cap, cur, rfl, hbg, hgc, -⟩
  · exact hB.keeps ((Keeps.refl [] w).grown hg (fun j hj => by cases hj)) (by simp)
  · have hne : k ≠ g := by
      rintro rfl
      have h1 : w.heap[k]? = some (.cells c.toArray T (0, 0)) := hB
      rw [h1] at hgc
      cases hgc
      exact hT rfl
    refine hB.keeps ((Keeps.refl [g] w).grown hg (fun j hj => .inl ?_)) (by simpa using hne)
    have e : (Value.slice (some ⟨g, 0, none⟩) n cap).ownBlock = some g := rfl
    rw [e] at hj
    cases hj
    simp
/-- The ending of a function that appends. -/
def AppendedB (base : Nat) (w : World) (bs : List UInt8) (e : Ending) (w' : World) : Prop := ∃ v', e = .returned v' ∧ Own base w' v' bs ∧ Bel base w w'
def AppB (P : Program) (f : Nat) (arg : Value) (new : List UInt8) : Prop :=
  ∀ (base : Nat) (w : World) (v : Value) (bs : List UInt8), Own base w v bs → base ≤ w.heap.size → bs.length + new.length ≤ lim → Calls P f #[v, arg] w (AppendedB base w (bs ++ new))
theorem AppendedB.mk {base : Nat} {w : World} {bs : List UInt8} {v' : Value} {w' : World} (h : Own base w' v' bs) (hb : Bel base w w') : AppendedB base w bs (.returned v') w' := ⟨v', rfl, h, hb⟩
theorem wplB_bytes {P : Program} {w : World} {ops : Array Oper} {rest : List Oper} {o : Oper} {a : Act} {Q : Exit → Act → World → Prop} {t : TypeId} (T : BytesT P t 5) (hgd : o.guard = none) (s x : Operand)
    (ho : o.op = .call { callee := .builtin .append, args := #[s, x], argTypes := #[t, t] }) (base : Nat) (bs : List UInt8) (hown : Own base w (a.eval s) bs) (hb : base ≤ w.heap.size)
    (cs : List Value) (bs' : List UInt8) (hcs : cs = bs'.map byteV) (hx : a.eval x = .slice (some ⟨w.heap.size, 0, none⟩) cs.length cs.length) (hl : bs.length + bs'.length ≤ lim)
    (h : ∀ v' w', Own base w' v' (bs ++ bs') → Bel base w w' → wpList P ops Q rest (a.put o.dst v') w') : wpList P ops Q (o :: rest) a (w.alloc (.cells cs.toArray 5)) := by
  obtain ⟨i, hi, hz, hs, hby⟩ := T.info
  subst hcs
  rw [List.length_map] at hx
  have hown1 := World.ownsRow.alloc hown (.cells (bs'.map byteV).toArray 5)
  refine wpl_append_src hgd s x t t ho base 5 i (.int .u8 0) 1 1 T.under hi hz hs hby rfl (a.eval s) bs.length (bs.map byteV) rfl hown1 _ bs'.length (bs'.map byteV) hx
    (Src.ofSlice _ T.under _ _ _ _ (by simp) ?_ ?_) (lim_max hl) (lim_room hl) (by simp; omega) ?_
  · intro j u hj
    rw [Addr.add_lit, (Blk.alloc_new w (bs'.map byteV) _).cell]
    simpa using hj
  · intro u hu
    obtain ⟨_, _, rfl⟩ := List.mem_map.1 hu
    rfl
  · intro v' w' hown' hg _
    refine h v' w' ?_ ⟨?_, fun k T c hT hB => blk_grown hown1 hg hT (hB.alloc _)⟩
    · unfold Own
      simpa using hown'
    · exact ((Below.refl _ _).alloc hb _).grown hg (by simp; omega) (fun k hk => by
        have := hown.lt k hk
        omega)
theorem wplB_from {P : Program} {w : World} {ops : Array Oper} {rest : List Oper} {o : Oper} {a : Act} {Q : Exit → Act → World → Prop} {t tx : TypeId} (T : BytesT P t 5) (hgd : o.guard = none) (s x : Operand)
    (ho : o.op = .call { callee := .builtin .append, args := #[s, x], argTypes := #[t, tx] }) (base : Nat) (bs : List UInt8) (hown : Own base w (a.eval s) bs) (hb : base ≤ w.heap.size)
    (bs' : List UInt8) (hsrc : Src P 1 tx (a.eval x) bs'.length (bs'.map byteV) w) (hl : bs.length + bs'.length ≤ lim)
    (h : ∀ v' w', Own base w' v' (bs ++ bs') → Bel base w w' → wpList P ops Q rest (a.put o.dst v') w') : wpList P ops Q (o :: rest) a w := by
  obtain ⟨i, hi, hz, hs, hby⟩ := T.info
  refine wpl_append_src hgd s x t tx ho base 5 i (.int .u8 0) 1 1 T.under hi hz hs hby rfl (a.eval s) bs.length (bs.map byteV) rfl hown _ bs'.length (bs'.map byteV) rfl hsrc (lim_max hl) (lim_room hl) hb ?_
  intro v' w' hown' hg _
  refine h v' w' ?_ ⟨?_, fun k T c hT hB => blk_grown hown hg hT hB⟩
  · unfold Own
    simpa using hown'
  · exact (Below.refl _ _).grown hg hb (fun k hk => by
        have := hown.lt k hk
        omega)
set_option maxRecDepth 100000 in
set_option maxHeartbeats 1000000 in
theorem bInt8 (x : Int) (h0 : -128 ≤ x) (h1 : x ≤ 127) : AppB Try.prog 26 (.int .i8 x) ([bb x]) := by
  intro base w v bs hown hb hl
  go_enter Try.func26, Try.ntmps26
  go_wp2_with (at_builtin; refine halted ?_)
  refine wplB_bytes bt rfl _ _ rfl base bs hown hb _ ([bb x]) ?_ rfl hl ?_
  · simp only [List.map_cons, List.map_nil, byteV_bb]
  intro v' w' hown' hbel
  go_wp2
  go_ret
  exact .mk hown' hbel
set_option maxRecDepth 100000 in
set_option maxHeartbeats 1000000 in
theorem bUint32 (x : Int) (h0 : 0 ≤ x) (h1 : x ≤ 4294967295) : AppB Try.prog 29 (.int .u32 x) (be32 x) := by
  intro base w v bs hown hb hl
  go_enter Try.func29, Try.ntmps29
  go_wp2_with (at_builtin; refine halted ?_)
  refine wplB_bytes bt rfl _ _ rfl base bs hown hb _ (be32 x) ?_ rfl hl ?_
  · have e : x / 16777216 % 256 = x / 16777216 := by omega
    simp only [be32, List.map_cons, List.map_nil, byteV_bb, e]
  intro v' w' hown' hbel
  go_wp2
  go_ret
  exact .mk hown' hbel
set_option maxRecDepth 100000 in
set_option maxHeartbeats 1000000 in
theorem bInt32 (x : Int) (h0 : -2147483648 ≤ x) (h1 : x ≤ 2147483647) : AppB Try.prog 25 (.int .i32 x) (be32 x) := by
  intro base w v bs hown hb hl
  go_enter Try.func25, Try.ntmps25
  go_wp2_with fail
  refine (bUint32 (x % 4294967296) (by omega) (by omega) base w v bs hown hb hl).mono ?_
  rintro e w' ⟨v', rfl, hown', hbel⟩
  rw [be32_mod] at hown'
  go_wp2
  go_ret
  exact .mk hown' hbel
set_option maxRecDepth 100000 in
set_option maxHeartbeats 1000000 in
theorem bUint64 (x : Int) (h0 : 0 ≤ x) (h1 : x / 72057594037927936 ≤ 255) : AppB Try.prog 28 (.int .u64 x) (be64 x) := by
  intro base w v bs hown hb hl
  go_enter Try.func28, Try.ntmps28
  go_wp2_with (at_builtin; refine halted ?_)
  refine wplB_bytes bt rfl _ _ rfl base bs hown hb _ (be64 x) ?_ rfl hl ?_
  · have e : x / 72057594037927936 % 256 = x / 72057594037927936 := by omega
    simp only [be64, List.map_cons, List.map_nil, byteV_bb, e]
  intro v' w' hown' hbel
  go_wp2
  go_ret
  exact .mk hown' hbel
set_option maxRecDepth 100000 in
set_option maxHeartbeats 1000000 in
theorem bInt64 (x : Int)  : AppB Try.prog 24 (.int .i64 x) (be64 x) := by
  intro base w v bs hown hb hl
  go_enter Try.func24, Try.ntmps24
  go_wp2_with fail
  refine (bUint64 (x % 18446744073709551616) (by omega) (by omega) base w v bs hown hb hl).mono ?_
  rintro e w' ⟨v', rfl, hown', hbel⟩
  rw [be64_mod] at hown'
  go_wp2
  go_ret
  exact .mk hown' hbel
set_option maxRecDepth 100000 in
set_option maxHeartbeats 1000000 in
theorem bBytes (b : List UInt8) (hn : b.length ≤ 2147483647) (x : Value) (base : Nat) (w : World) (v : Value) (bs : List UInt8) (hx : RL base w x b) (hown : Own base w v bs) (hb : base ≤ w.heap.size)
    (hl : bs.length + (be32 b.length ++ b).length ≤ lim) : Calls Try.prog 30 #[v, x] w (AppendedB base w (bs ++ (be32 b.length ++ b))) := by
  have hx2 := hx
  obtain ⟨a, cap, rfl, -⟩ := hx2
  go_enter Try.func30, Try.ntmps30
  go_wp2_with fail
  refine (bInt32 _ (by omega) (by omega) base w v bs hown hb (by simp only [List.length_append] at hl; omega)).mono ?_
  rintro e w' ⟨v', rfl, hown', hbel⟩
  go_wp2_with (at_builtin; refine halted ?_)
  refine wplB_from bt rfl _ _ rfl base _ hown' (Nat.le_trans hb hbel.size) b (Src.ofRL Try.underlying29 (hx.below hbel.bel)) (by simp only [List.length_append] at hl ⊢; omega) ?_
  intro v2 w2 hown2 hbel2
  rw [List.append_assoc] at hown2
  go_wp2
  go_ret
  exact .mk hown2 (hbel.trans hbel2)
end Go.Proofs.Ytfchajjllhndlaa.makeOld
