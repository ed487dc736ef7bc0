/- Sixteen octets: read, laid into a part. -/
import Derived.Test.YtellhjpdpaeieaaDoorRs
import Derived.Laws.CopyOwn
import Derived.Deep.RegionHeld3
namespace Go.Proofs.YtellhjpdpaeieaaDoor
open Go Go.RowKit
set_option linter.unusedVariables false

theorem span16 : rdSpan 16 = rdTake 16 := rfl
section
variable {RT : RTags} {P : Program} {N nt gE : Nat} {E : Value} {K : Slots} {lo t : Nat} {ver : Int} {flex : Bool}
/-- What is asked of the function that reads sixteen octets. -/
def UuidRd (P : Program) (F : Nat) : Prop := RdC P F (rdTake 16) (fun O w v s => v = .agg (s.map byteV).toArray) (fun v => ∃ l : List UInt8, l.length = 16 ∧ v = .agg (l.map byteV).toArray)
theorem take_len {k : Nat} {bs s r : List UInt8} (h : rdTake k bs = some (s, r)) : s.length = k := by
  unfold rdTake at h
  split at h
  · cases h; simp; omega
  · cases h
/-- The cells of a block with a row laid into it. -/
def laid (cs : List Value) (i : Nat) (l : List Value) : List Value := cs.take i ++ l ++ cs.drop (i + l.length)
theorem SameOut.laid (cs : List Value) (i : Nat) (l : List Value) (h : i + l.length ≤ cs.length) : SameOut cs (laid cs i l) i (i + l.length) := by
  refine ⟨by simp [Proofs.YtellhjpdpaeieaaDoor.laid]; omega, fun k hk => ?_⟩
  unfold Proofs.YtellhjpdpaeieaaDoor.laid
  rcases hk with hk | hk
  · rw [List.append_assoc, List.getElem?_append_left (by simp; omega), List.getElem?_take_of_lt hk]
  · rw [List.getElem?_append_right (by simp; omega), List.getElem?_drop]
    congr 1
    simp
    omega
theorem laid_get (cs : List Value) (i : Nat) (l : List Value) (h : i + l.length ≤ cs.length) (j : Nat) (hj : j < l.length) : (laid cs i l)[i + j]? = l[j]? := by
  unfold laid
  rw [List.append_assoc, List.getElem?_append_right (by simp; omega), List.getElem?_append_left (by simp; omega)]
  congr 1
  simp
  omega
theorem run_store_many_at {U n : Nat} (hU : ManyCells P U n) {w : World} {b i T : Nat} {cs : List Value} (hB : Blk w b cs T) {l : List Value} (hl : l.length = n) (hi : i + n ≤ cs.length) (h1 : ∀ v ∈ l, v.oneCell' = true) :
    (Instr.storeAt U (.pointer (some ⟨b, i, none⟩)) (.agg l.toArray)).run P w = .ok () (w.setRow b (laid cs i l).toArray) := by
  obtain ⟨it, z, hit, hs, -, -⟩ := hU.info
  have h := run_storeCells_at P b i T l 0 cs.toArray w hB (by simp; omega) h1
  simp only [Nat.add_zero] at h
  simp [Instr.storeAt, Instr.sureAddr, storeVar, sizeOf, typeInfo, hit, Value.cells, hl, hs, h, laid]
theorem bytes_one (l : List UInt8) : ∀ x ∈ l.map byteV, x.oneCell' = true := by
  intro x hx
  obtain ⟨_, _, rfl⟩ := List.mem_map.1 hx
  rfl
theorem Keeps.setRow {O : List Nat} {a w : World} {g : Nat} (h : Keeps O a w) (hg : g ∈ O ∨ a.heap.size ≤ g) (cs : Array Value) : Keeps O a (w.setRow g cs) :=
  ⟨h.os, h.tape, h.output, by simpa [World.setRow] using h.size, fun k hk ho => (setRow_other w g k cs (by rintro rfl; rcases hg with x | x; exact ho x; omega)).trans (h.block k hk ho)⟩
theorem rdF_uuid {s bp rs v t1 t2 F T' k U off r r' y1 y2 y3 y4 y5 y6 y7 y8 : Nat} {q1 q2 q3 q4 q5 q6 q7 q8 : String} {g1 g2 g3 g4 g5 g6 g7 g8 : Array Edge} {at_ : Array TypeId}
    (hk : KOK N lo t ((s, .int .i64 0) :: (bp, .int .i64 0) :: K)) (hT : FieldAt P T' k off) (hU : ManyCells P U 16) (he : Enters P F) (hC : UuidRd P F) (hD : Dims N nt lo t) (hd : t ≤ t1 ∧ t1 < nt ∧ lo ≤ v ∧ v < N ∧ t ≤ t2 ∧ t2 + 3 < nt ∧ bp < lo ∧ s < lo) :
    RdF RT P N nt gE E ver flex K lo t s bp rs ((Code.region r #[⟨some t1, .call { callee := .value (.func F), args := #[.tmp bp], argTypes := at_ }, y1, q1, g1, none⟩, ⟨some v, .alloc U, y2, q2, g2, none⟩, ⟨none, .store U (.tmp v) (.tmp t1), y3, q3, g3, none⟩] false).seq
      (.region r' #[⟨some t2, .move (.tmp s), y4, q4, g4, none⟩, ⟨some (t2 + 1), .load U (.tmp v), y5, q5, g5, none⟩, ⟨some (t2 + 2), .nilCheck (.tmp t2), y6, q6, g6, none⟩, ⟨some (t2 + 3), .fieldAddr T' (.tmp (t2 + 2)) k, y7, q7, g7, none⟩,
        ⟨none, .store U (.tmp (t2 + 3)) (.tmp (t2 + 1)), y8, q8, g8, none⟩] false)) off (.leaf .uuid) := by
  intro O rb b o Tb a w cs st Q hN hh hst hF hq hr
  obtain ⟨d1, d2, d3, d4, d5, d6, d7, d8⟩ := hd
  have x1 := hD.dOne; have x2 := hD.dLo; have x3 := hD.dT; have x4 := hD.dN
  have hF' : o + off + 16 ≤ cs.length := hF
  refine wp_seq (wp_reg ?_)
  refine wl_call (R := RdPost (rdTake 16) (fun O w v s => v = .agg (s.map byteV).toArray) (fun v => ∃ l : List UInt8, l.length = 16 ∧ v = .agg (l.map byteV).toArray) O rb w st) he ?_ ?_
  · simp only [List.map_toArray, List.map_cons, List.map_nil, aget_eval]
    rw [hh.tail.head]
    exact hC O rb w st hst.rbO hst.lt hst.rdr
  rintro en w1 ⟨x, rfl, hr1, hk1, hbad, hgood⟩
  refine ⟨_, rfl, ?_⟩
  obtain ⟨l, hl16, hxl, hgl⟩ : ∃ l : List UInt8, l.length = 16 ∧ x = .agg (l.map byteV).toArray ∧ ∀ s r, st.bind (rdTake 16) = some (s, r) → s = l := by
    cases hx : st.bind (rdTake 16) with
    | none =>
      obtain ⟨l, h1, h2⟩ := hbad hx
      exact ⟨l, h1, h2, fun s r h => by cases h⟩
    | some q =>
      refine ⟨q.1, ?_, hgood q.1 q.2 hx, fun s r h => by cases h; rfl⟩
      cases st with
      | none => cases hx
      | some bs => exact take_len (r := q.2) hx
  subst hxl
  have hst1 := hst.call hr1 hk1
  obtain ⟨z, hz, hza⟩ := run_alloc_many (P := P) hU w1
  refine wl_value (v := .pointer (some ⟨w1.heap.size, 0, none⟩)) (w' := w1.alloc (.cells z U)) rfl (by simp [execOp, hza]) ?_
  have hg : (w1.alloc (.cells z U)).heap[w1.heap.size]? = some (.cells z U (0, 0)) := heap_alloc_new w1 _
  refine wl_store (w' := (w1.alloc (.cells z U)).setRow w1.heap.size (l.map byteV).toArray) ?_ ?_
  · rw [aget_eval, aget_eval, aget_put_same _ _ _ (by simp only [size_put]; omega), aget_put_other _ _ _ t1 (by omega), aget_put_same _ _ _ (by omega)]
    exact run_store_many (P := P) hU hg hz (l := l.map byteV) (by simpa using hl16) (bytes_one l)
  refine wpList_nil ?_
  have hf1 : Fr N lo t nt a ((a.put (some t1) (.agg (l.map byteV).toArray)).put (some v) (.pointer (some ⟨w1.heap.size, 0, none⟩))) := ((Fr.refl N lo t nt a).put _ _ (by omega)).put _ _ (by omega)
  have hv1 : aget ((a.put (some t1) (.agg (l.map byteV).toArray)).put (some v) (.pointer (some ⟨w1.heap.size, 0, none⟩))) v = .pointer (some ⟨w1.heap.size, 0, none⟩) := aget_put_same _ _ _ (by simp only [size_put]; omega)
  generalize ((a.put (some t1) (.agg (l.map byteV).toArray)).put (some v) (.pointer (some ⟨w1.heap.size, 0, none⟩))) = a1 at *
  have hN1 := hf1.size.trans hN
  have hh1 := hh.frR (kokR hk) hD hf1
  have hk2 : Keeps [] w1 ((w1.alloc (.cells z U)).setRow w1.heap.size (l.map byteV).toArray) := Keeps.setRow ((Keeps.refl [] w1).alloc _) (.inr (Nat.le_refl _)) _
  have hbl : Blk ((w1.alloc (.cells z U)).setRow w1.heap.size (l.map byteV).toArray) w1.heap.size (l.map byteV) U := setRow_heap _ _ _ _ _ _ hg
  generalize ((w1.alloc (.cells z U)).setRow w1.heap.size (l.map byteV).toArray) = w2 at *
  have hst2 := hst1.upd (hst1.blk.keeps hk2 (by simp)) (hk2.mono (by simp))
  simp only [Exit.then]
  refine wp_reg ?_
  refine wl_move hh1.head ?_
  refine wl_value (v := .agg (l.map byteV).toArray) (w' := w2) rfl ?_ ?_
  · have e2 : (a1.put (some t2) (.pointer (some ⟨b, o, none⟩))).eval (.tmp v) = .pointer (some ⟨w1.heap.size, 0, none⟩) := (aget_put_other _ _ _ _ (by omega)).trans hv1
    have := run_load_many (P := P) hU (w := w2) (ad := ⟨w1.heap.size, 0, none⟩) (l := l.map byteV) (by simpa using hl16) (fun j x hx => by
      rw [Addr.add_lit, Nat.zero_add, hbl.cell]; exact hx)
    simp [execOp, e2, this]
  refine wl_nilCheck (ad := ⟨b, o, none⟩) (by rw [aget_put_other _ _ _ t2 (by omega)]; exact aget_put_same _ _ _ (by omega)) ?_
  refine wl_fieldAddr hT (aget_put_same _ _ _ (by simp only [size_put]; omega)) ?_
  rw [Addr.add_lit]
  have hl16' : (l.map byteV).length = 16 := by simpa using hl16
  refine wl_store (w' := w2.setRow b (laid cs (o + off) (l.map byteV)).toArray) ?_ ?_
  · rw [aget_eval, aget_eval, aget_put_same _ _ _ (by simp only [size_put]; omega), aget_put_other _ _ _ (t2 + 1) (by omega), aget_put_other _ _ _ (t2 + 1) (by omega), aget_put_same _ _ _ (by simp only [size_put]; omega)]
    exact run_store_many_at hU hst2.blk hl16' hF' (bytes_one l)
  have hb3 : Blk (w2.setRow b (laid cs (o + off) (l.map byteV)).toArray) b (laid cs (o + off) (l.map byteV)) Tb := setRow_heap _ _ _ _ _ _ hst2.blk
  have hk3 : Keeps [b] w2 (w2.setRow b (laid cs (o + off) (l.map byteV)).toArray) := Keeps.setRow (Keeps.refl [b] w2) (.inl (by simp)) _
  have hso := SameOut.laid cs (o + off) (l.map byteV) (by omega)
  have est : ((st.bind (rd ver flex (.leaf .uuid))).map (·.2)) = ((st.bind (rdTake 16)).map (·.2)) := by
    change (st.bind ((rdTake 16).bind fun s => Pr.pure (GV.bytes s))).map _ = _
    rw [bind_st]
    cases st.bind (rdTake 16) <;> rfl
  refine wpList_nil (hq _ _ (laid cs (o + off) (l.map byteV)) ?_ (hf1.trans (((((Fr.refl N lo t nt a1).put _ _ (by omega)).put _ _ (by omega)).put _ _ (by omega)).put _ _ (by omega))) ?_ ?_ fun gv r hv => ?_)
  · rw [est]
    exact hst2.upd hb3 hk3
  · exact ((keeps_rb hk1).trans (hk2.mono (by simp))).trans (hk3.mono (by simp))
  · rw [hl16'] at hso; exact hso
  · have hv' : ∃ q, st.bind (rdTake 16) = some q ∧ gv = .bytes q.1 := by
      change st.bind ((rdTake 16).bind fun s => Pr.pure (GV.bytes s)) = _ at hv
      rw [bind_st] at hv
      cases hx : st.bind (rdTake 16) with
      | none => rw [hx] at hv; cases hv
      | some q =>
        rw [hx] at hv
        simp only [Option.bind_some, Pr.pure, Option.some.injEq, Prod.mk.injEq] at hv
        exact ⟨q, rfl, hv.1.symm⟩
    obtain ⟨q, hx, rfl⟩ := hv'
    have hql := hgl q.1 q.2 hx
    rw [hql]
    refine ⟨hl16, fun i u hi => ?_⟩
    have hlt : i < l.length := (List.getElem?_eq_some_iff.1 hi).1
    rw [hb3.cell, laid_get cs (o + off) (l.map byteV) (by omega) i (by simp; omega), List.getElem?_map, hi]
    rfl
end
end Go.Proofs.YtellhjpdpaeieaaDoor
