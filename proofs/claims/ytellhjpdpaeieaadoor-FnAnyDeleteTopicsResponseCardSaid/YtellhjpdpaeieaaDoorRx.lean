/- Reading a text that may be null from a version on: ahead of that version a text lies in a cell of its own. -/
import Derived.Test.YtellhjpdpaeieaaDoorRt
namespace Go.Proofs.YtellhjpdpaeieaaDoor
open Go Go.RowKit
set_option linter.unusedVariables false

section
variable {RT : RTags} {P : Program} {N nt gE : Nat} {E : Value} {K : Slots} {lo t : Nat} {ver : Int} {flex : Bool}
/-- The code c reads a text into the cell that slot v leads to. -/
def RdT (P : Program) (N nt gE : Nat) (E : Value) (flex : Bool) (K : Slots) (lo t bp : Nat) (c : Code) (v : Nat) : Prop :=
  ∀ (O : List Nat) (rb p T : Nat) (a : Act) (w : World) (x : Value) (st : Option (List UInt8)) (Q : Exit → Act → World → Prop), a.tmps.size = nt → Holds ((bp, .pointer (some ⟨rb, 0, none⟩)) :: K) a → aget a v = .pointer (some ⟨p, 0, none⟩) → RSt gE E O w rb p [x] T st →
    (∀ a' w' y, RSt gE E O w' rb p [y] T ((st.bind (rdStr flex)).map (·.2)) → Fr N lo t nt a a' → Keeps [rb, p] w w' → (∀ g r, st.bind (rdStr flex) = some (g, r) → LV O w' flex y .str g) → Q .normal a' w') → c.wp P Q a w
theorem rdT_call {bp v t1 F Us r ty1 ty2 : Nat} {p1 p2 : String} {e1 e2 : Array Edge} {at_ : Array TypeId} (he : Enters P F) (hC : LeafRd P ver flex F .str) (hU : OneCell P Us) (hD : Dims N nt lo t) (hd : t ≤ t1 ∧ t1 < nt ∧ v < lo) :
    RdT P N nt gE E flex K lo t bp (Code.region r #[⟨some t1, .call { callee := .value (.func F), args := #[.tmp bp], argTypes := at_ }, ty1, p1, e1, none⟩, ⟨none, .store Us (.tmp v) (.tmp t1), ty2, p2, e2, none⟩] false) v := by
  intro O rb p T a w x st Q hN hh hv hst hq
  obtain ⟨d1, d2, d3⟩ := hd
  have g2 := hD.dLo; have g3 := hD.dT; have g4 := hD.dN
  refine wp_reg ?_
  refine wl_call (R := RdPost (rdLeaf ver flex .str) (fun O w v g => LV O w flex v .str g) One O rb w st) he ?_ ?_
  · simp only [List.map_toArray, List.map_cons, List.map_nil, aget_eval]
    rw [hh.head]
    exact hC O rb w st hst.rbO hst.lt hst.rdr
  rintro e w' ⟨y, rfl, hr, hk, hbad, hgood⟩
  refine ⟨y, rfl, ?_⟩
  have hone : One y := by
    cases hx : st.bind (rdLeaf ver flex .str) with
    | none => exact hbad hx
    | some q => exact (hgood q.1 q.2 hx).one
  have hst1 := hst.call hr hk
  refine wl_store (w' := w'.setCell ⟨p, 0, none⟩ y) ?_ ?_
  · rw [aget_eval, aget_eval, aget_put_same _ _ _ (by omega), aget_put_other _ _ _ _ (by omega), hv]
    exact run_store_blk hU hst1.blk (by simp) hone
  refine wpList_nil (hq _ _ y (hst1.store 0 y) ((Fr.refl N lo t nt a).put _ _ (by omega)) ((keeps_rb hk).trans (keeps_b w' 0 y)) fun g r hx => ?_)
  exact (hgood g r hx).keeps ((Keeps.refl O w').setCell hst1.bO _)
theorem rdT_flag {bp v sf t1 r ty1 : Nat} {p1 : String} {e1 : Array Edge} {c1 c2 : Code} {fl : Bool} (hk : KOK N lo t ((bp, .int .i64 0) :: K)) (hf : (sf, Value.bool fl) ∈ K) (hD : Dims N nt lo t) (hd : t ≤ t1 ∧ t1 < nt ∧ v < lo ∧ v ≠ 1)
    (h1 : fl = true → RdT P N nt gE E flex K lo t bp c1 v) (h2 : fl = false → RdT P N nt gE E flex K lo t bp c2 v) :
    RdT P N nt gE E flex K lo t bp ((Code.region r #[⟨some t1, .move (.tmp sf), ty1, p1, e1, none⟩] false).seq (.cond (.tmp t1) c1 c2)) v := by
  intro O rb p T a w x st Q hN hh hv hst hq
  have g2 := hD.dLo; have g3 := hD.dT; have g4 := hD.dN
  have hk' : KOK N lo t ((bp, .pointer (some ⟨rb, 0, none⟩)) :: K) := fun p hp => by
    simp only [List.mem_cons] at hp
    rcases hp with rfl | hp
    · exact hk (bp, .int .i64 0) (by simp)
    · exact hk p (by simp [hp])
  refine wp_seq (reg_flag (x0 := nt) (lo := lo) hN (hh _ (List.mem_cons_of_mem _ hf)) ⟨hD.dT, hd.1, hd.2.1, hD.dLo⟩ fun a' hfr hx => ?_)
  have hv' : aget a' v = .pointer (some ⟨p, 0, none⟩) := (hfr.same v (by omega) (.inl (by omega))).trans hv
  cases fl
  · exact wp_cond_false hx (h2 rfl O rb p T a' w x st Q (hfr.size.trans hN) (hh.frR hk' hD hfr) hv' hst fun a2 w2 y g1 g2 g3 g4 => hq a2 w2 y g1 (hfr.trans g2) g3 g4)
  · exact wp_cond_true hx (h1 rfl O rb p T a' w x st Q (hfr.size.trans hN) (hh.frR hk' hD hfr) hv' hst fun a2 w2 y g1 g2 g3 g4 => hq a2 w2 y g1 (hfr.trans g2) g3 g4)

theorem rdL_from {bp u v sv t1 T U Us r1 r2 r3 y1 y2 y3 y4 lo' : Nat} {q1 q2 q3 q4 : String} {g1 g2 g3 g4 : Array Edge} {n : Int} {c1 c2 : Code} (hk : KOK N lo t ((bp, .int .i64 0) :: K)) (hsv : (sv, Value.int .i16 ver) ∈ K)
    (hA : ∀ w : World, (Instr.alloc Us true (.tuple #[])).run P w = .ok (.pointer (some ⟨w.heap.size, 0, none⟩)) (w.alloc (.cells #[.string ⟨#[]⟩] Us))) (hD : Dims N nt lo t)
    (hd : t ≤ t1 ∧ t1 + 1 < nt ∧ lo ≤ v ∧ v < N ∧ lo ≤ u ∧ u < N ∧ u ≠ v ∧ v < lo' ∧ lo ≤ lo' ∧ lo' ≤ N)
    (h1 : RdT P N nt gE E flex K lo' t bp c1 v) (h2 : ¬ ver < n → RdL P N nt gE E ver flex K lo t bp c2 u (.nstrFrom n)) :
    RdL P N nt gE E ver flex K lo t bp ((Code.region r1 #[⟨some t1, .move (.tmp sv), y1, q1, g1, none⟩, ⟨some (t1 + 1), .binOp .lss T (.tmp t1) (.const (.int .i16 n)) U, y2, q2, g2, none⟩] false).seq (.cond (.tmp (t1 + 1))
      ((Code.region r2 #[⟨some v, .alloc Us, y3, q3, g3, none⟩] false).seq (c1.seq (Code.region r3 #[⟨some u, .assign (.tmp v), y4, q4, g4, none⟩] false))) c2)) u (.nstrFrom n) := by
  intro O rb b Tb a w cs st Q hN hh hst hq
  obtain ⟨d1, d2, d3, d4, d5, d6, d7, d8, d9, d10⟩ := hd
  have x1 := hD.dOne; have x2 := hD.dLo; have x3 := hD.dT; have x4 := hD.dN
  have hk' : KOK N lo t ((bp, .pointer (some ⟨rb, 0, none⟩)) :: K) := fun p hp => by
    simp only [List.mem_cons] at hp
    rcases hp with rfl | hp
    · exact hk (bp, .int .i64 0) (by simp)
    · exact hk p (by simp [hp])
  refine wp_seq (reg_cmp (x0 := nt) (lo := lo) (b := decide (ver < n)) hN (hh _ (List.mem_cons_of_mem _ hsv)) ⟨x3, d1, d2, x2⟩ (fun w => by rw [run_cmp_i16]) fun a1 hf1 hx1 => ?_)
  have hN1 := hf1.size.trans hN
  have hh1 := hh.frR hk' hD hf1
  by_cases hv : ver < n
  · rw [decide_eq_true hv] at hx1
    refine wp_cond_true hx1 ?_
    refine wp_seq (wp_reg ?_)
    refine wl_value (v := .pointer (some ⟨w.heap.size, 0, none⟩)) (w' := w.alloc (.cells #[.string ⟨#[]⟩] Us)) rfl (by simp [execOp, hA]) ?_
    refine wpList_nil ?_
    have hf2 : Fr N lo t nt a1 (a1.put (some v) (.pointer (some ⟨w.heap.size, 0, none⟩))) := (Fr.refl N lo t nt a1).put _ _ (by omega)
    have hv2 : aget (a1.put (some v) (.pointer (some ⟨w.heap.size, 0, none⟩))) v = .pointer (some ⟨w.heap.size, 0, none⟩) := aget_put_same _ _ _ (by omega)
    generalize a1.put (some v) (.pointer (some ⟨w.heap.size, 0, none⟩)) = a2 at *
    have hN2 := hf2.size.trans hN1
    have hh2 := hh1.frR hk' hD hf2
    have hka : Keeps [] w (w.alloc (.cells #[.string ⟨#[]⟩] Us)) := (Keeps.refl [] w).alloc _
    have hgl := World.block_lt_of_cell? w _ hst.glob
    have hrbl := hst.lt rb hst.rbO
    have hinner : RSt gE E (w.heap.size :: O) (w.alloc (.cells #[.string ⟨#[]⟩] Us)) rb w.heap.size [.string ⟨#[]⟩] Us st := by
      refine ⟨(hst.rdr.open (Nat.le_refl _)).other hka (by simp) (by simp), Blk.alloc_new w [.string ⟨#[]⟩] Us, List.mem_cons_of_mem _ hst.rbO, List.mem_cons_self .., by omega, fun k hk => ?_, ?_, ?_⟩
      · rcases List.mem_cons.1 hk with rfl | hk
        · simp
        · exact Nat.lt_of_lt_of_le (hst.lt k hk) hka.size
      · exact (World.cell?_of_block (hka.block gE hgl (by simp))).trans hst.glob
      · intro hm
        rcases List.mem_cons.1 hm with e | hm
        · exact Nat.lt_irrefl _ (e ▸ hgl)
        · exact hst.gO hm
    refine wp_seq (h1 (w.heap.size :: O) rb w.heap.size Us a2 _ _ st _ hN2 hh2 hv2 hinner fun a3 w3 y hst3 hf3 hk3 hlv => ?_)
    have hv3 : aget a3 v = .pointer (some ⟨w.heap.size, 0, none⟩) := (hf3.same v (by omega) (.inl (by omega))).trans hv2
    have hf3' : Fr N lo t nt a2 a3 := hf3.mono (by omega) (Nat.le_refl _)
    have e : rdLeaf ver flex (.nstrFrom n) = rdStr flex := if_pos hv
    obtain ⟨hback, hkb⟩ := RSt.back hst (Nat.le_refl _) (hka.mono (O' := [rb]) (by simp)) hk3 hst3
    have hkrb : Keeps [rb] w w3 := ((hka.mono (O' := [w.heap.size, rb]) (by simp)).trans (hk3.mono (by simp))).close (Nat.le_refl _)
    refine wp_reg (wl_assign hv3 (wpList_nil ?_))
    have hN3 := hf3.size.trans hN2
    refine hq _ w3 (.pointer (some ⟨w.heap.size, 0, none⟩)) (aget_put_same _ _ _ (by omega)) ⟨rfl, rfl⟩ (by rw [e]; exact hback) ((((hf1.trans hf2).trans hf3').put _ _ (by omega))) hkrb fun g r hx => ?_
    rw [e] at hx
    have hl := hlv g r hx
    cases g <;> simp only [LV] at hl <;> try exact hl.elim
    rename_i l
    refine ⟨⟨w.heap.size, 0, rfl, fun hm => Nat.lt_irrefl _ (hst.lt _ hm), ?_⟩, hl.2⟩
    have := hst3.blk.cell_some (i := 0) rfl
    rw [this, hl.1]
  · rw [decide_eq_false hv] at hx1
    exact wp_cond_false hx1 (h2 hv O rb b Tb a1 w cs st Q hN1 hh1 hst fun a' w' x g1 g2 g3 g4 g5 g6 => hq a' w' x g1 g2 g3 (hf1.trans g4) g5 g6)
end
end Go.Proofs.YtellhjpdpaeieaaDoor
