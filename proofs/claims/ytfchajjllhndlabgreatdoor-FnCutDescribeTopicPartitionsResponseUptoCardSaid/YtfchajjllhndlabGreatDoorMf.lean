/- Shared texts of these proofs, laid together by merge.py: Rt, Ruu, Rtop, Lw, Tree, TreeRep, Spa, Spb, Spc, Spd, Spe, Spf, Spg, Up. -/
import Derived.Test.YtfchajjllhndlabGreatDoorMe
import Derived.Laws.CopyOwn
import Derived.Deep.RegionHeld3
import Derived.Test.YtfchajjllhndlabGreatDoorMa
import Derived.StillTailTactics
import Derived.Laws.OwnMore
set_option linter.unusedVariables false
/- Sixteen octets: read, laid into a part. -/
namespace Go.Proofs.YtfchajjllhndlabGreatDoor
open Go Go.RowKit
set_option linter.unusedVariables false

theorem span16 : rdSpan 16 = rdTake 16 := rfl
section
variable {RT : RTags} {P : Program} {N nt gE : Nat} {E : Value} {K : Slots} {lo t : Nat} {ver : Int} {flex : Bool}
/-- What is asked of the function that reads sixteen octets. -/
def UuidRd (P : Program) (F : Nat) : Prop := RdC P F (rdTake 16) (fun O w v s => v = .agg (s.map byteV).toArray) (fun v => ∃ l : List UInt8, l.length = 16 ∧ v = .agg (l.map byteV).toArray)
theorem take_len {k : Nat} {bs s r : List UInt8} (h : rdTake k bs = some (s, r)) : s.length = k := by
  unfold rdTake at h
  split at h
  · cases h; simp; omega
  · cases h
/-- The cells of a block with a row laid into it. -/
def laid (cs : List Value) (i : Nat) (l : List Value) : List Value := cs.take i ++ l ++ cs.drop (i + l.length)
theorem SameOut.laid (cs : List Value) (i : Nat) (l : List Value) (h : i + l.length ≤ cs.length) : SameOut cs (laid cs i l) i (i + l.length) := by
  refine ⟨by simp [Proofs.YtfchajjllhndlabGreatDoor.laid]; omega, fun k hk => ?_⟩
  unfold Proofs.YtfchajjllhndlabGreatDoor.laid
  rcases hk with hk | hk
  · rw [List.append_assoc, List.getElem?_append_left (by simp; omega), List.getElem?_take_of_lt hk]
  · rw [List.getElem?_append_right (by simp; omega), List.getElem?_drop]
    congr 1
    simp
    omega
theorem laid_get (cs : List Value) (i : Nat) (l : List Value) (h : i + l.length ≤ cs.length) (j : Nat) (hj : j < l.length) : (laid cs i l)[i + j]? = l[j]? := by
  unfold laid
  rw [List.append_assoc, List.getElem?_append_right (by simp; omega), List.getElem?_append_left (by simp; omega)]
  congr 1
  simp
  omega
theorem run_store_many_at {U n : Nat} (hU : ManyCells P U n) {w : World} {b i T : Nat} {cs : List Value} (hB : Blk w b cs T) {l : List Value} (hl : l.length = n) (hi : i + n ≤ cs.length) (h1 : ∀ v ∈ l, v.oneCell' = true) :
    (Instr.storeAt U (.pointer (some ⟨b, i, none⟩)) (.agg l.toArray)).run P w = .ok () (w.setRow b (laid cs i l).toArray) := by
  obtain ⟨it, z, hit, hs, -, -⟩ := hU.info
  have h := run_storeCells_at P b i T l 0 cs.toArray w hB (by simp; omega) h1
  simp only [Nat.add_zero] at h
  simp [Instr.storeAt, Instr.sureAddr, storeVar, sizeOf, typeInfo, hit, Value.cells, hl, hs, h, laid]
theorem bytes_one (l : List UInt8) : ∀ x ∈ l.map byteV, x.oneCell' = true := by
  intro x hx
  obtain ⟨_, _, rfl⟩ := List.mem_map.1 hx
  rfl
theorem Keeps.setRow {O : List Nat} {a w : World} {g : Nat} (h : Keeps O a w) (hg : g ∈ O ∨ a.heap.size ≤ g) (cs : Array Value) : Keeps O a (w.setRow g cs) :=
  ⟨h.os, h.tape, h.output, by simpa [World.setRow] using h.size, fun k hk ho => (setRow_other w g k cs (by rintro rfl; rcases hg with x | x; exact ho x; omega)).trans (h.block k hk ho)⟩
theorem rdF_uuid {s bp rs v t1 t2 F T' k U off r r' y1 y2 y3 y4 y5 y6 y7 y8 : Nat} {q1 q2 q3 q4 q5 q6 q7 q8 : String} {g1 g2 g3 g4 g5 g6 g7 g8 : Array Edge} {at_ : Array TypeId}
    (hk : KOK N lo t ((s, .int .i64 0) :: (bp, .int .i64 0) :: K)) (hT : FieldAt P T' k off) (hU : ManyCells P U 16) (he : Enters P F) (hC : UuidRd P F) (hD : Dims N nt lo t) (hd : t ≤ t1 ∧ t1 < nt ∧ lo ≤ v ∧ v < N ∧ t ≤ t2 ∧ t2 + 3 < nt ∧ bp < lo ∧ s < lo) :
    RdF RT P N nt gE E ver flex K lo t s bp rs ((Code.region r #[⟨some t1, .call { callee := .value (.func F), args := #[.tmp bp], argTypes := at_ }, y1, q1, g1, none⟩, ⟨some v, .alloc U, y2, q2, g2, none⟩, ⟨none, .store U (.tmp v) (.tmp t1), y3, q3, g3, none⟩] false).seq
      (.region r' #[⟨some t2, .move (.tmp s), y4, q4, g4, none⟩, ⟨some (t2 + 1), .load U (.tmp v), y5, q5, g5, none⟩, ⟨some (t2 + 2), .nilCheck (.tmp t2), y6, q6, g6, none⟩, ⟨some (t2 + 3), .fieldAddr T' (.tmp (t2 + 2)) k, y7, q7, g7, none⟩,
        ⟨none, .store U (.tmp (t2 + 3)) (.tmp (t2 + 1)), y8, q8, g8, none⟩] false)) off (.leaf .uuid) := by
  intro O rb b o Tb a w cs st Q hN hh hst hF hq hr
  obtain ⟨d1, d2, d3, d4, d5, d6, d7, d8⟩ := hd
  have x1 := hD.dOne; have x2 := hD.dLo; have x3 := hD.dT; have x4 := hD.dN
  have hF' : o + off + 16 ≤ cs.length := hF
  refine wp_seq (wp_reg ?_)
  refine wl_call (R := RdPost (rdTake 16) (fun O w v s => v = .agg (s.map byteV).toArray) (fun v => ∃ l : List UInt8, l.length = 16 ∧ v = .agg (l.map byteV).toArray) O rb w st) he ?_ ?_
  · simp only [List.map_toArray, List.map_cons, List.map_nil, aget_eval]
    rw [hh.tail.head]
    exact hC O rb w st hst.rbO hst.lt hst.rdr
  rintro en w1 ⟨x, rfl, hr1, hk1, hbad, hgood⟩
  refine ⟨_, rfl, ?_⟩
  obtain ⟨l, hl16, hxl, hgl⟩ : ∃ l : List UInt8, l.length = 16 ∧ x = .agg (l.map byteV).toArray ∧ ∀ s r, st.bind (rdTake 16) = some (s, r) → s = l := by
    cases hx : st.bind (rdTake 16) with
    | none =>
      obtain ⟨l, h1, h2⟩ := hbad hx
      exact ⟨l, h1, h2, fun s r h => by cases h⟩
    | some q =>
      refine ⟨q.1, ?_, hgood q.1 q.2 hx, fun s r h => by cases h; rfl⟩
      cases st with
      | none => cases hx
      | some bs => exact take_len (r := q.2) hx
  subst hxl
  have hst1 := hst.call hr1 hk1
  obtain ⟨z, hz, hza⟩ := run_alloc_many (P := P) hU w1
  refine wl_value (v := .pointer (some ⟨w1.heap.size, 0, none⟩)) (w' := w1.alloc (.cells z U)) rfl (by simp [execOp, hza]) ?_
  have hg : (w1.alloc (.cells z U)).heap[w1.heap.size]? = some (.cells z U (0, 0)) := heap_alloc_new w1 _
  refine wl_store (w' := (w1.alloc (.cells z U)).setRow w1.heap.size (l.map byteV).toArray) ?_ ?_
  · rw [aget_eval, aget_eval, aget_put_same _ _ _ (by simp only [size_put]; omega), aget_put_other _ _ _ t1 (by omega), aget_put_same _ _ _ (by omega)]
    exact run_store_many (P := P) hU hg hz (l := l.map byteV) (by simpa using hl16) (bytes_one l)
  refine wpList_nil ?_
  have hf1 : Fr N lo t nt a ((a.put (some t1) (.agg (l.map byteV).toArray)).put (some v) (.pointer (some ⟨w1.heap.size, 0, none⟩))) := ((Fr.refl N lo t nt a).put _ _ (by omega)).put _ _ (by omega)
  have hv1 : aget ((a.put (some t1) (.agg (l.map byteV).toArray)).put (some v) (.pointer (some ⟨w1.heap.size, 0, none⟩))) v = .pointer (some ⟨w1.heap.size, 0, none⟩) := aget_put_same _ _ _ (by simp only [size_put]; omega)
  generalize ((a.put (some t1) (.agg (l.map byteV).toArray)).put (some v) (.pointer (some ⟨w1.heap.size, 0, none⟩))) = a1 at *
  have hN1 := hf1.size.trans hN
  have hh1 := hh.frR (kokR hk) hD hf1
  have hk2 : Keeps [] w1 ((w1.alloc (.cells z U)).setRow w1.heap.size (l.map byteV).toArray) := Keeps.setRow ((Keeps.refl [] w1).alloc _) (.inr (Nat.le_refl _)) _
  have hbl : Blk ((w1.alloc (.cells z U)).setRow w1.heap.size (l.map byteV).toArray) w1.heap.size (l.map byteV) U := setRow_heap _ _ _ _ _ _ hg
  generalize ((w1.alloc (.cells z U)).setRow w1.heap.size (l.map byteV).toArray) = w2 at *
  have hst2 := hst1.upd (hst1.blk.keeps hk2 (by simp)) (hk2.mono (by simp))
  simp only [Exit.then]
  refine wp_reg ?_
  refine wl_move hh1.head ?_
  refine wl_value (v := .agg (l.map byteV).toArray) (w' := w2) rfl ?_ ?_
  · have e2 : (a1.put (some t2) (.pointer (some ⟨b, o, none⟩))).eval (.tmp v) = .pointer (some ⟨w1.heap.size, 0, none⟩) := (aget_put_other _ _ _ _ (by omega)).trans hv1
    have := run_load_many (P := P) hU (w := w2) (ad := ⟨w1.heap.size, 0, none⟩) (l := l.map byteV) (by simpa using hl16) (fun j x hx => by
      rw [Addr.add_lit, Nat.zero_add, hbl.cell]; exact hx)
    simp [execOp, e2, this]
  refine wl_nilCheck (ad := ⟨b, o, none⟩) (by rw [aget_put_other _ _ _ t2 (by omega)]; exact aget_put_same _ _ _ (by omega)) ?_
  refine wl_fieldAddr hT (aget_put_same _ _ _ (by simp only [size_put]; omega)) ?_
  rw [Addr.add_lit]
  have hl16' : (l.map byteV).length = 16 := by simpa using hl16
  refine wl_store (w' := w2.setRow b (laid cs (o + off) (l.map byteV)).toArray) ?_ ?_
  · rw [aget_eval, aget_eval, aget_put_same _ _ _ (by simp only [size_put]; omega), aget_put_other _ _ _ (t2 + 1) (by omega), aget_put_other _ _ _ (t2 + 1) (by omega), aget_put_same _ _ _ (by simp only [size_put]; omega)]
    exact run_store_many_at hU hst2.blk hl16' hF' (bytes_one l)
  have hb3 : Blk (w2.setRow b (laid cs (o + off) (l.map byteV)).toArray) b (laid cs (o + off) (l.map byteV)) Tb := setRow_heap _ _ _ _ _ _ hst2.blk
  have hk3 : Keeps [b] w2 (w2.setRow b (laid cs (o + off) (l.map byteV)).toArray) := Keeps.setRow (Keeps.refl [b] w2) (.inl (by simp)) _
  have hso := SameOut.laid cs (o + off) (l.map byteV) (by omega)
  have est : ((st.bind (rd ver flex (.leaf .uuid))).map (·.2)) = ((st.bind (rdTake 16)).map (·.2)) := by
    change (st.bind ((rdTake 16).bind fun s => Pr.pure (GV.bytes s))).map _ = _
    rw [bind_st]
    cases st.bind (rdTake 16) <;> rfl
  refine wpList_nil (hq _ _ (laid cs (o + off) (l.map byteV)) ?_ (hf1.trans (((((Fr.refl N lo t nt a1).put _ _ (by omega)).put _ _ (by omega)).put _ _ (by omega)).put _ _ (by omega))) ?_ ?_ fun gv r hv => ?_)
  · rw [est]
    exact hst2.upd hb3 hk3
  · exact ((keeps_rb hk1).trans (hk2.mono (by simp))).trans (hk3.mono (by simp))
  · rw [hl16'] at hso; exact hso
  · have hv' : ∃ q, st.bind (rdTake 16) = some q ∧ gv = .bytes q.1 := by
      change st.bind ((rdTake 16).bind fun s => Pr.pure (GV.bytes s)) = _ at hv
      rw [bind_st] at hv
      cases hx : st.bind (rdTake 16) with
      | none => rw [hx] at hv; cases hv
      | some q =>
        rw [hx] at hv
        simp only [Option.bind_some, Pr.pure, Option.some.injEq, Prod.mk.injEq] at hv
        exact ⟨q, rfl, hv.1.symm⟩
    obtain ⟨q, hx, rfl⟩ := hv'
    have hql := hgl q.1 q.2 hx
    rw [hql]
    refine ⟨hl16, fun i u hi => ?_⟩
    have hlt : i < l.length := (List.getElem?_eq_some_iff.1 hi).1
    rw [hb3.cell, laid_get cs (o + off) (l.map byteV) (by omega) i (by simp; omega), List.getElem?_map, hi]
    rfl
end
end Go.Proofs.YtfchajjllhndlabGreatDoor

/- The reader's Uuid. -/
namespace Go.Proofs.YtfchajjllhndlabGreatDoor
open Go Go.RowKit
set_option linter.unusedVariables false
abbrev z16 : List Value := List.replicate 16 (.int .u8 0)
theorem spanVal {O : List Nat} {rb : Nat} {w : World} {st : Option (List UInt8)} {e : Ending} {w' : World} (h : RdPost (rdSpan 16) (fun O w v s => RB O w v s) (fun v => v = .slice none 0 0) O rb w st e w') :
    ∃ (sp : Option Addr) (n cap : Nat) (cs : List Value), e = .returned (.slice sp n cap) ∧ cs.length = Nat.min n 16 ∧ (0 < cs.length → ∃ ad, sp = some ad ∧ ∀ j v, cs[j]? = some v → w'.cell? (ad.add j) = some v) ∧ cs.length ≤ 16 ∧ (∀ v ∈ cs, v.oneCell' = true) ∧
      (∃ l : List UInt8, l.length = 16 ∧ splice z16 0 cs = l.map byteV ∧ ∀ s r, st.bind (rdTake 16) = some (s, r) → s = l) ∧ Rdr O w' rb ((st.bind (rdTake 16)).map (·.2)) ∧ Keeps [rb] w w' := by
  obtain ⟨v, rfl, h1, h2, h3, h4⟩ := h
  rw [span16] at h1 h3 h4
  cases hx : st.bind (rdTake 16) with
  | none =>
    obtain rfl := h3 hx
    refine ⟨none, 0, 0, [], rfl, rfl, fun h => absurd h (by simp), by simp, by simp, ⟨List.replicate 16 0, by simp, ?_, fun s r h => by cases h⟩, by rw [hx] at h1; exact h1, h2⟩
    rfl
  | some q =>
    have hl : q.1.length = 16 := by
      cases st with
      | none => cases hx
      | some bs => exact take_len (r := q.2) hx
    obtain ⟨a, cap, rfl, -, -, hc⟩ := h4 q.1 q.2 hx
    refine ⟨a, q.1.length, cap, q.1.map byteV, rfl, by rw [List.length_map, hl]; rfl, fun _ => ?_, by rw [List.length_map, hl]; exact Nat.le_refl _, bytes_one _, ⟨q.1, hl, ?_, fun s r h => by cases h; rfl⟩, by rw [hx] at h1; exact h1, h2⟩
    · obtain ⟨b, o, rfl, -, hcell⟩ := hc (by intro h; rw [h] at hl; cases hl)
      refine ⟨_, rfl, fun j v hj => ?_⟩
      rw [List.getElem?_map] at hj
      cases hq : q.1[j]? with
      | none => rw [hq] at hj; cases hj
      | some u => rw [hq] at hj; cases hj; rw [Addr.add_lit]; exact hcell j u hq
    · unfold splice
      rw [List.length_map, hl]
      simp
/-- 'copy' into a block: all else stays. -/
theorem step_copy_keep {P : Program} {ops : Array Oper} {o : Oper} {a : Act} {w : World} {K : Act → World → Prop} {Q : Exit → Act → World → Prop} {E : Prop} (hgd : o.guard = none) (d s : Operand) (dT sT : TypeId)
    (ho : o.op = .call { callee := .builtin .copy, args := #[d, s], argTypes := #[dT, sT] }) (elem : TypeId) (hu : P.underlying dT = some (.slice elem)) (hsz : (P.info? elem).map (·.size) = some 1)
    (dp sp : Option Addr) (dLen dCap sLen sCap : Nat) (hd : a.eval d = .slice dp dLen dCap) (hs : a.eval s = .slice sp sLen sCap)
    (g : Nat) (cur : List Value) (t : TypeId) (hg : w.heap[g]? = some (.cells cur.toArray t (0, 0))) (cs : List Value) (hn : cs.length = Nat.min sLen dLen)
    (hpos : 0 < cs.length → dp = some ⟨g, 0, none⟩ ∧ ∃ ad, sp = some ad ∧ ∀ j v, cs[j]? = some v → w.cell? (ad.add j) = some v)
    (hfit : cs.length ≤ cur.length) (h1 : ∀ v ∈ cs, v.oneCell' = true)
    (h : ∀ w', RowKit.Hid (w'.heap[g]? = some (.cells (splice cur 0 cs).toArray t (0, 0))) → Keeps [g] w w' → K (a.put o.dst (goInt cs.length)) w') :
    if Region.wanted o (yielded ops a.tmps) = true then Oper.wp P o a w K Q else E := by
  have hw : Region.wanted o (yielded ops a.tmps) = true := by simp [Region.wanted, hgd]
  rw [if_pos hw]
  by_cases h0 : cs.length = 0
  · obtain rfl : cs = [] := List.eq_nil_of_length_eq_zero h0
    have hrun := run_copy_none (P := P) w dT sT o.type elem dp sp dLen dCap sLen sCap hu hsz (by simpa using hn.symm)
    unfold Oper.wp
    simp [execOp, ho, resolve, invoke, builtin, hd, hs, hrun, Result.andThen]
    exact h w (show _ = _ by simpa [splice] using hg) (Keeps.refl _ _)
  · obtain ⟨rfl, ad, rfl, hsrc⟩ := hpos (by omega)
    have hrun := run_copy_row (P := P) w dT sT o.type elem g 0 dLen dCap ad sLen sCap cur.toArray t cs hu hsz hg hn hsrc (by simpa using hfit) h1
    unfold Oper.wp
    simp [execOp, ho, resolve, invoke, builtin, hd, hs, hrun, Result.andThen]
    exact h _ (show _ = _ by simpa [splice] using setRow_heap w g _ _ t _ hg) (Keeps.setRow (Keeps.refl _ _) (.inl (by simp)) _)
theorem results_cellN {fn : Func} {t U n : Nat} {P : Program} {w : World} {ad : Addr} {l : List Value} {tmps : Array Value} (h : fn.results = #[.cell t U]) (ht : tmps.getD t undef = .pointer (some ad)) (hU : ManyCells P U n) (hl : l.length = n) (hc : ∀ j v, l[j]? = some v → w.cell? (ad.add j) = some v) :
    (results fn tmps).run P w = .ok (.agg l.toArray) w := by
  have h1 := run_load_many (P := P) hU (w := w) (ad := ad) hl hc
  have h2 : (loadVar U ad).run P w = .ok (.agg l.toArray) w := by simpa [Instr.loadAt, Instr.sureAddr] using h1
  have h3 : tmps[t]?.getD undef = .pointer (some ad) := by simpa using ht
  simp [results, h, h3, asAddr, h2]
set_option maxRecDepth 100000 in
set_option maxHeartbeats 2000000 in
theorem rUuid : UuidRd Tryz.prog 211 := by
  intro O rb w st hO hlt h
  have hb2 : Blk ((w.alloc (.cells z16.toArray 100)).alloc (.cells z16.toArray 100)) w.heap.size z16 100 := by
    have h0 : Blk (w.alloc (.cells z16.toArray 100)) w.heap.size z16 100 := heap_alloc_new w _
    exact h0.keeps ((Keeps.refl [] _).alloc _) (by simp)
  have hb3 : Blk ((w.alloc (.cells z16.toArray 100)).alloc (.cells z16.toArray 100)) (w.heap.size + 1) z16 100 := by
    have h0 : Blk ((w.alloc (.cells z16.toArray 100)).alloc (.cells z16.toArray 100)) (w.alloc (.cells z16.toArray 100)).heap.size z16 100 := heap_alloc_new _ _
    simpa using h0
  have hk2 : Keeps [] w ((w.alloc (.cells z16.toArray 100)).alloc (.cells z16.toArray 100)).drew := (((Keeps.refl [] w).alloc _).alloc _).drew
  have C := Lib.hid (rSpan ((w.heap.size + 1) :: w.heap.size :: O) rb ((w.alloc (.cells z16.toArray 100)).alloc (.cells z16.toArray 100)).drew st 16 (by simp [hO]) (by intro k hk; simp only [List.mem_cons] at hk; rcases hk with rfl | rfl | hk; exact hb3.lt; exact hb2.lt; exact Nat.lt_of_lt_of_le (hlt k hk) hk2.size) (((h.open (Nat.le_refl _)).open (Nat.le_succ _)).other hk2 (by simp) (by simp)))
  have H := Lib.hid (And.intro hO (And.intro hlt (And.intro h (And.intro hb2 (And.intro hb3 hk2)))))
  have hz := hb3
  unfold Blk at hz
  clear hO hlt h hb2 hb3 hk2
  go_enter Tryz.func211, Tryz.ntmps211
  go_wp2_with fail
  go_region_held3 (fun w' => ∃ c : Array Value, w'.heap[w.heap.size + 1]? = some (.cells c 100 (0, 0))) (first | exact ⟨_, hg4.out⟩ | exact ⟨_, hS3⟩ | exact ⟨_, hz⟩)
    (first
      | (go_at_call 271; refine C.out.mono ?_; intro e w1 hp; obtain ⟨sp, n, cap, cs, rfl, hn, hpos, hc16, hone, hl, hr1, hk1⟩ := spanVal hp; have hS3 : w1.heap[w.heap.size + 1]? = some (.cells z16.toArray 100 (0, 0)) := (hk1.block _ (Blk.lt H.out.2.2.2.2.1) (by have := H.out.2.1 rb H.out.1; rw [List.mem_singleton]; omega)).trans H.out.2.2.2.2.1)
      | (refine step_copy_keep rfl (.tmp 4) (.tmp 6) 22 22 rfl 5 Tryz.underlying22 (by kernel_rfl) _ _ _ _ _ _ rfl rfl (w.heap.size + 1) z16 100 hS3 cs hn (fun h => ⟨rfl, hpos h⟩) (by simpa using hc16) hone ?_; intro w4 hg4 hb4))
  obtain ⟨l, hl16, hsp, hlu⟩ := hl
  have hmc : ManyCells Tryz.prog 100 16 := ⟨fun w => Tryz.isAgg100 w, ⟨Tryz.t100, _, by kernel_rfl, rfl, rfl, rfl⟩⟩
  have hb3 : Blk w4 (w.heap.size + 1) (l.map byteV) 100 := by have h := hg4.out; rw [hsp] at h; exact h
  have hb2 : Blk w4 w.heap.size z16 100 := (hb4.block _ (Nat.lt_of_lt_of_le (Blk.lt H.out.2.2.2.1) hk1.size) (by simp)).trans ((hk1.block _ (Blk.lt H.out.2.2.2.1) (by have := H.out.2.1 rb H.out.1; rw [List.mem_singleton]; omega)).trans H.out.2.2.2.1)
  have hll : (l.map byteV).length = 16 := by simpa using hl16
  have hload : (Instr.loadAt 100 (.pointer (some ⟨w.heap.size + 1, 0, none⟩))).run Tryz.prog w4 = .ok (.agg (l.map byteV).toArray) w4 := run_load_many hmc hll (fun j v hj => by rw [Addr.add_lit, Nat.zero_add, hb3.cell]; exact hj)
  have hstore : (Instr.storeAt 100 (.pointer (some ⟨w.heap.size, 0, none⟩)) (.agg (l.map byteV).toArray)).run Tryz.prog w4 = .ok () (w4.setRow w.heap.size (l.map byteV).toArray) := run_store_many hmc hb2 rfl hll (bytes_one l)
  have Y := Lib.hid (And.intro hb2 (And.intro hb4 (And.intro hr1 (And.intro hk1 (And.intro hlu hl16)))))
  have HM := Lib.hid hmc
  clear hb2 hb3 hb4 hr1 hk1 hlu hl16 hsp hg4 hS3 hpos hone hc16 hn hz C hmc
  simp only [Exit.then]
  apply ‹∀ (a : Act) (w_1 : World), Code.wp _ _ _ a w_1 → _›
  refine wp_seq (wp_reg ?_)
  refine wl_value (v := .agg (l.map byteV).toArray) (w' := w4) rfl ?_ ?_
  · simp only [execOp]
    have e : ∀ A : Act, A.eval (.tmp 3) = .pointer (some ⟨w.heap.size + 1, 0, none⟩) → (execOp A.eval ⟨some 8, .load 100 (.tmp 3), 100, "", #[], none⟩).run Tryz.prog w4 = .ok (.value (.agg (l.map byteV).toArray)) w4 := fun A hA => by simp [execOp, hA, hload]
    exact e _ rfl
  refine wl_store (w' := w4.setRow w.heap.size (l.map byteV).toArray) hstore ?_
  refine wpList_nil (wp_ret ?_)
  have hr4 : Blk (w4.setRow w.heap.size (l.map byteV).toArray) w.heap.size (l.map byteV) 100 := setRow_heap _ _ _ _ _ _ Y.out.1
  refine bodyPost_ret (v := .agg (l.map byteV).toArray) (results_cellN (ad := ⟨w.heap.size, 0, none⟩) rfl rfl HM.out hll (fun j v hj => by rw [Addr.add_lit, Nat.zero_add, hr4.cell]; exact hj)) rfl ?_
  have hrb := H.out.2.1 rb H.out.1
  have kk : Keeps [w.heap.size + 1, w.heap.size] w1 (w4.setRow w.heap.size (l.map byteV).toArray) := Keeps.setRow (Y.out.2.1.mono (by simp)) (.inl (by simp)) _
  have kw : Keeps [w.heap.size + 1, w.heap.size, rb] w (w4.setRow w.heap.size (l.map byteV).toArray) := (((H.out.2.2.2.2.2.mono (O' := [rb]) (by simp)).trans Y.out.2.2.2.1).mono (O' := [w.heap.size + 1, w.heap.size, rb]) (by simp)).trans (kk.mono (by simp))
  refine ⟨_, rfl, ?_, ((kw.close (Nat.le_succ _)).close (Nat.le_refl _)), fun _ => ⟨l, Y.out.2.2.2.2.2, rfl⟩, fun x r hx => ?_⟩
  · exact (Y.out.2.2.1.other kk (by simp; omega) (by simp)).mono (by simp; exact fun k hk => .inr (.inr hk))
  · rw [Y.out.2.2.2.2.1 x r hx]
end Go.Proofs.YtfchajjllhndlabGreatDoor

/- What readgen.py's texts lean on. -/
namespace Go.Proofs.YtfchajjllhndlabGreatDoor
open Go Go.RowKit
theorem kokD {N lo t : Nat} {K : Slots} (h : (K.map (·.1)).all (fun a => decide (a ≠ 1) && (decide (a < lo) || (decide (N ≤ a) && decide (a < t)))) = true) : KOK N lo t K := by
  intro p hp
  have h1 := List.all_eq_true.1 h p.1 (List.mem_map_of_mem hp)
  simp only [Bool.and_eq_true, Bool.or_eq_true, decide_eq_true_eq] at h1
  exact h1
theorem mcReader : ManyCells Tryz.prog 277 2 := ⟨fun w => Tryz.isAgg277 w, ⟨Tryz.t277, _, by kernel_rfl, rfl, rfl, rfl⟩⟩
end Go.Proofs.YtfchajjllhndlabGreatDoor

/- The law's own helpers; what is read and written again. -/
namespace Go.Proofs.YtfchajjllhndlabGreatDoor
open Go Go.RowKit
set_option linter.unusedVariables false

/-- What is read of any octets is written as octets that are read again, and written as the same. -/
theorem anyLaw {ver : Int} {flex : Bool} {s : Sch} {bs r : List UInt8} {v : GV} (hok : okS ver flex s = true) (hb : bs.length ≤ 1000) (h : rd ver flex s bs = some (v, r)) :
    (ap ver flex s v).length ≤ 1000 ∧ ∃ v', rd ver flex s (ap ver flex s v) = some (v', []) ∧ ap ver flex s v' = ap ver flex s v := by
  obtain ⟨h1, h2⟩ := rd_out ver flex s hok (by unfold M; omega) h
  obtain ⟨v', -, h4, h5⟩ := rd_ap ver flex s v hok h1
  refine ⟨by omega, v', ?_, h4⟩
  have := h5 []
  rwa [List.append_nil] at this
theorem Own.rl' {base : Nat} {w : World} {v : Value} {bs : List UInt8} (h : Own base w v bs) : RL w.heap.size w v bs := (h.rb [] (by simp)).rl
/-- What Again answers. -/
def AgainPost (ver : Int) (flex : Bool) (s : Sch) (bs : List UInt8) (w : World) (e : Ending) (w' : World) : Prop :=
  Below w.heap.size w w' ∧ (rd ver flex s bs = none → e = .returned (.tuple #[.slice none 0 0, .bool false])) ∧ ∀ v r, rd ver flex s bs = some (v, r) → ∃ x, e = .returned (.tuple #[x, .bool true]) ∧ Own w.heap.size w' x (ap ver flex s v)
set_option maxRecDepth 100000 in
set_option maxHeartbeats 1600000 in
theorem sameOK (bs : List UInt8) (x y : Value) (B base : Nat) (w : World) (hb : base ≤ w.heap.size) (hx : RL B w x bs) (hy : RL B w y bs) (hBw : B ≤ base) : Calls Tryz.prog 21 #[x, y] w fun e w' => e = .returned (.bool true) ∧ Below base w w' := by
  obtain ⟨a, cap, rfl, h1, h2, h3⟩ := hx
  obtain ⟨a', cap', rfl, h1', h2', h3'⟩ := hy
  by_cases hne : bs = []
  · subst hne
    clear h3 h3'
    go_enter Tryz.func21, Tryz.ntmps21
    go_wp2_with fail
    refine wp_loop_rounds 1 ?_
    rw [rounds_succ]
    go_wp2
    go_ret
    exact ⟨rfl, Below.refl _ _⟩
  obtain ⟨p, q, rfl, hp, hc⟩ := h3 hne
  obtain ⟨p', q', rfl, hp', hc'⟩ := h3' hne
  have H := Lib.hid (And.intro hc hc')
  clear hc hc' h3 h3' hne
  obtain ⟨n, hn⟩ : ∃ n, bs.length = n := ⟨_, rfl⟩
  rw [hn] at h1 h1' ⊢
  go_enter Tryz.func21, Tryz.ntmps21
  go_wp2_with fail
  go_loopw [13] (fun i wr => ∃ k : Nat, k ≤ n ∧ i = .int .i64 k ∧ Below base w wr) (fun i _ => n - numOf i)
  case atStart => exact ⟨0, Nat.zero_le _, rfl, Below.refl _ _⟩
  case round =>
    obtain ⟨k, hk, rfl, hbk⟩ := hrel
    by_cases hkn : k < n
    · obtain ⟨u, hu⟩ : ∃ u, bs[k]? = some u := ⟨bs[k], List.getElem?_eq_getElem (by omega)⟩
      have c1 := (hbk.cell (p := ⟨p, q + k, none⟩) (by show p < base; omega)).trans (H.out.1 k u hu)
      have c2 := (hbk.cell (p := ⟨p', q' + k, none⟩) (by show p' < base; omega)).trans (H.out.2 k u hu)
      have FIN := Lib.hid hbk.drew
      clear hbk hu
      unfold byteV at c1 c2
      generalize (u.toNat : Int) = z at *
      go_wp2_with fail
      go_region_held3 (fun w' => w'.cell? ⟨p, q + k, none⟩ = some (.int .u8 z) ∧ w'.cell? ⟨p', q' + k, none⟩ = some (.int .u8 z)) (first | exact ⟨c1, c2⟩) (first | fail)
      go_wp2
      go_roundw
      case rel => exact ⟨k + 1, by omega, by go_num, FIN.out⟩
      case measure => simp [numOf]; omega
    · have : k = n := by omega
      subst this
      go_wp2
      go_ret
      exact ⟨rfl, hbk⟩

set_option maxHeartbeats 400000 in
theorem versionOK (n most : Int) (h0 : 0 ≤ n) (h1 : n ≤ 255) (h2 : 0 ≤ most) (h3 : most ≤ 255) (w : World) : Calls Tryz.prog 19 #[.int .u8 n, .int .i64 most] w fun e w' => e = .returned (.int .i64 (n % (most + 1))) ∧ w = w' := by
  go_enter Tryz.func19, Tryz.ntmps19
  go_wp2
  go_ret
  exact ⟨rfl, rfl⟩
end Go.Proofs.YtfchajjllhndlabGreatDoor

/- The reference's own words as plain functions: fields, what they say, and what is written of them. No program in sight. -/
namespace Go.Proofs.YtfchajjllhndlabGreatDoor

/-- Fields (spec.Field), one behind the other: kind, from, to, null, tag, default, kind of things; the fields of a part. -/
inductive PFs where
  | nil
  | cons (k fr to nu tg df ok : Int) (sub rest : PFs)
def PFs.len : PFs → Nat
  | .nil => 0
  | .cons _ _ _ _ _ _ _ _ rest => rest.len + 1
/-- No field has a tag, to the bottom. -/
def PFs.noTag : PFs → Prop
  | .nil => True
  | .cons _ _ _ _ tg _ _ sub rest => tg = -1 ∧ sub.noTag ∧ rest.noTag

/-- What a field says (spec.Tree). -/
inductive Tree where
  | mk (n : Int) (s : List UInt8) (null : Bool) (l : List Tree) (u : List (Nat × List UInt8))
def Tree.n : Tree → Int | .mk n _ _ _ _ => n
def Tree.s : Tree → List UInt8 | .mk _ s _ _ _ => s
def Tree.null : Tree → Bool | .mk _ _ b _ _ => b
def Tree.l : Tree → List Tree | .mk _ _ _ l _ => l
def Tree.u : Tree → List (Nat × List UInt8) | .mk _ _ _ _ u => u
def Tree.zero : Tree := .mk 0 [] false [] []
def atT (t : Tree) (i : Nat) : Tree := t.l.getD i .zero

def fixed (n : Int) (size : Nat) : List UInt8 := if size = 1 then [bb n] else if size = 2 then be16 n else if size = 4 then be32 n else be64 n
def counted (flex null : Bool) (n size : Nat) : List UInt8 := if flex then (if null then [0] else uv (n + 1)) else if null then fixed (-1) size else fixed n size
def pWidth (k : Int) : Nat := if k = 1 then 1 else if k = 2 ∨ k = 5 then 2 else if k = 3 then 4 else 8
def whole (s : List UInt8) : List UInt8 := s.take 32767
/-- 16 octets of a text, zeros behind it. -/
def uuid16 (s : List UInt8) : List UInt8 := (s ++ List.replicate 16 0).take 16
def pNull (nu ver : Int) (t : Tree) : Bool := t.null && decide (0 ≤ nu) && decide (nu ≤ ver)

/-- What is written of a value of a kind; pp: of a part. -/
def pVal (flex : Bool) (k : Int) (pp : Tree → List UInt8) (null : Bool) (t : Tree) : List UInt8 :=
  if k = 0 then [bb (t.n % 2)]
  else if k = 7 then uuid16 t.s
  else if k = 8 then counted flex null (if null then [] else whole t.s).length 2 ++ (if null then [] else whole t.s)
  else if k = 9 then counted flex null (if null then [] else whole t.s).length 4 ++ (if null then [] else whole t.s)
  else if k = 10 then pp t
  else fixed t.n (pWidth k)
def pThings (null : Bool) (t : Tree) : List Tree := if null then [] else t.l.take 32767
def pField (ver : Int) (flex : Bool) (k nu ok : Int) (pp : Tree → List UInt8) (t : Tree) : List UInt8 :=
  if k = 11 then counted flex (pNull nu ver t) (pThings (pNull nu ver t) t).length 4 ++ (pThings (pNull nu ver t) t).flatMap (pVal flex ok pp false)
  else if k = 10 ∧ 0 ≤ nu then (if pNull nu ver t then fixed (-1) 1 else fixed 1 1 ++ pp t)
  else pVal flex k pp (pNull nu ver t) t
/-- A tag, laid into a list of tags by rising numbers: the first one counts. -/
def insU (k : Nat) (v : List UInt8) : List (Nat × List UInt8) → List (Nat × List UInt8)
  | [] => [(k, v)]
  | (j, u) :: r => if j < k then (j, u) :: insU k v r else if j = k then (j, u) :: r else (k, v) :: (j, u) :: r
def unk (l : List (Nat × List UInt8)) : List (Nat × List UInt8) := (l.take 32767).foldl (fun acc t => insU t.1 t.2 acc) []
def pTag (t : Nat × List UInt8) : List UInt8 := uv t.1 ++ uv (whole t.2).length ++ whole t.2
def pTail (flex : Bool) (t : Tree) : List UInt8 := if flex then uv (unk t.u).length ++ (unk t.u).flatMap pTag else []
def pHas (fr to ver : Int) : Bool := decide (fr ≤ ver) && (decide (to < 0) || decide (ver ≤ to))
/-- What is written of fields, from the i-th on; of those without tags. -/
def pFields (ver : Int) (flex : Bool) : PFs → Nat → Tree → List UInt8
  | .nil, _, _ => []
  | .cons k fr to nu tg _ ok sub rest, i, t =>
    (if decide (tg < 0) && pHas fr to ver then pField ver flex k nu ok (fun t' => pFields ver flex sub 0 t' ++ pTail flex t') (atT t i) else []) ++ pFields ver flex rest (i + 1) t
/-- What is written of a part. -/
def pPart (ver : Int) (flex : Bool) (fs : PFs) (t : Tree) : List UInt8 := pFields ver flex fs 0 t ++ pTail flex t

/-- What a new part says. -/
def pDefault : PFs → List Tree
  | .nil => []
  | .cons k _ _ nu _ df _ sub rest => .mk df [] (decide (0 ≤ nu)) (if k = 10 then pDefault sub else []) [] :: pDefault rest
end Go.Proofs.YtfchajjllhndlabGreatDoor

/- How the reference's fields and trees lie in memory, below block B. -/
namespace Go.Proofs.YtfchajjllhndlabGreatDoor
open Go Go.RowKit

/-- Fields that stand in cells, from (p, q) on, 8 cells each. -/
def RepFC (B : Nat) (w : World) : PFs → Nat → Nat → Prop
  | .nil, _, _ => True
  | .cons k fr to nu tg df ok sub rest, p, q =>
    (w.cell? ⟨p, q, none⟩ = some (.int .i64 k) ∧ w.cell? ⟨p, q + 1, none⟩ = some (.int .i64 fr) ∧ w.cell? ⟨p, q + 2, none⟩ = some (.int .i64 to) ∧ w.cell? ⟨p, q + 3, none⟩ = some (.int .i64 nu) ∧
      w.cell? ⟨p, q + 4, none⟩ = some (.int .i64 tg) ∧ w.cell? ⟨p, q + 5, none⟩ = some (.int .i64 df) ∧ w.cell? ⟨p, q + 6, none⟩ = some (.int .i64 ok)) ∧
    (∃ v, w.cell? ⟨p, q + 7, none⟩ = some v ∧ ∃ a cap, v = .slice a sub.len cap ∧ sub.len ≤ 9223372036854775807 ∧ (sub.len ≠ 0 → ∃ p' q', a = some ⟨p', q', none⟩ ∧ p' < B ∧ RepFC B w sub p' q')) ∧
    RepFC B w rest p (q + 8)
/-- Fields behind a slice's value. -/
def RepF (B : Nat) (w : World) (fs : PFs) (v : Value) : Prop := ∃ a cap, v = .slice a fs.len cap ∧ fs.len ≤ 9223372036854775807 ∧ (fs.len ≠ 0 → ∃ p q, a = some ⟨p, q, none⟩ ∧ p < B ∧ RepFC B w fs p q)
theorem RepFC.below {B : Nat} {w w' : World} (hk : Below B w w') : ∀ {fs : PFs} {p q : Nat}, p < B → RepFC B w fs p q → RepFC B w' fs p q
  | .nil, _, _, _, _ => trivial
  | .cons _ _ _ _ _ _ _ sub rest, p, q, hp, h => by
    obtain ⟨⟨h1, h2, h3, h4, h5, h6, h7⟩, ⟨v, h8, a, cap, h9, hle, h10⟩, h11⟩ := h
    have hc : ∀ j, w'.cell? ⟨p, j, none⟩ = w.cell? ⟨p, j, none⟩ := fun j => hk.cell (p := ⟨p, j, none⟩) hp
    refine ⟨⟨(hc _).trans h1, (hc _).trans h2, (hc _).trans h3, (hc _).trans h4, (hc _).trans h5, (hc _).trans h6, (hc _).trans h7⟩, ⟨v, (hc _).trans h8, a, cap, h9, hle, fun hn => ?_⟩, RepFC.below hk hp h11⟩
    obtain ⟨p', q', ha, hp', hr⟩ := h10 hn
    exact ⟨p', q', ha, hp', RepFC.below hk hp' hr⟩
theorem RepF.below {B : Nat} {w w' : World} {fs : PFs} {v : Value} (h : RepF B w fs v) (hk : Below B w w') : RepF B w' fs v := by
  obtain ⟨a, cap, hv, hle, h⟩ := h
  refine ⟨a, cap, hv, hle, fun hn => ?_⟩
  obtain ⟨p, q, ha, hp, hr⟩ := h hn
  exact ⟨p, q, ha, hp, hr.below hk hp⟩

/-- Unknown tags: cells of a number and octets, two a tag. -/
def RepU (B : Nat) (w : World) (u : List (Nat × List UInt8)) (v : Value) : Prop :=
  ∃ a cap, v = .slice a u.length cap ∧ u.length ≤ cap ∧ cap ≤ 9223372036854775807 ∧ (u ≠ [] → ∃ p q, a = some ⟨p, q, none⟩ ∧ p < B ∧
    ∀ i kv, u[i]? = some kv → w.cell? ⟨p, q + 2 * i, none⟩ = some (.int .u32 (kv.1 : Int)) ∧ kv.1 ≤ 4294967295 ∧ ∃ x, w.cell? ⟨p, q + 2 * i + 1, none⟩ = some x ∧ RL B w x kv.2)
theorem RepU.below {B : Nat} {w w' : World} {u : List (Nat × List UInt8)} {v : Value} (h : RepU B w u v) (hk : Below B w w') : RepU B w' u v := by
  obtain ⟨a, cap, hv, h1, h2, h⟩ := h
  refine ⟨a, cap, hv, h1, h2, fun hn => ?_⟩
  obtain ⟨p, q, ha, hp, hr⟩ := h hn
  refine ⟨p, q, ha, hp, fun i kv hi => ?_⟩
  obtain ⟨h3, h4, x, h5, h6⟩ := hr i kv hi
  exact ⟨(hk.cell (p := ⟨p, _, none⟩) hp).trans h3, h4, x, (hk.cell (p := ⟨p, _, none⟩) hp).trans h5, h6.below hk⟩

/-- A tree whose five cells hold c. -/
inductive RepT (B : Nat) (w : World) : List Value → Tree → Prop
  | mk (n : Int) (s : List UInt8) (null : Bool) (l : List Tree) (u : List (Nat × List UInt8)) (sv uv : Value) (a : Option Addr) (cap : Nat) (f : Nat → List Value)
    (hn : -9223372036854775808 ≤ n ∧ n ≤ 9223372036854775807) (hs : RL B w sv s) (hu : RepU B w u uv) (hcap : l.length ≤ cap ∧ cap ≤ 9223372036854775807)
    (hl : l ≠ [] → ∃ p q, a = some ⟨p, q, none⟩ ∧ p < B ∧ ∀ i, i < l.length → (f i).length = 5 ∧ ∀ j v, (f i)[j]? = some v → w.cell? ⟨p, q + 5 * i + j, none⟩ = some v)
    (hf : ∀ i t, l[i]? = some t → RepT B w (f i) t) : RepT B w [.int .i64 n, sv, .bool null, .slice a l.length cap, uv] (.mk n s null l u)
theorem RepT.keep {B : Nat} {w w' : World} (hk : Below B w w') {c : List Value} {t : Tree} (h : RepT B w c t) : RepT B w' c t := by
  induction h with
  | mk n s null l u sv uv a cap f hn hs hu hcap hl hf ih =>
    refine .mk n s null l u sv uv a cap f hn (hs.below hk) (hu.below hk) hcap (fun hne => ?_) ih
    obtain ⟨p, q, ha, hp, h⟩ := hl hne
    exact ⟨p, q, ha, hp, fun i hi => ⟨(h i hi).1, fun j v hj => (hk.cell (p := ⟨p, _, none⟩) hp).trans ((h i hi).2 j v hj)⟩⟩
theorem RepT.zero (B : Nat) (w : World) : RepT B w [.int .i64 0, .slice none 0 0, .bool false, .slice none 0 0, .slice none 0 0] .zero :=
  .mk 0 [] false [] [] _ _ none 0 (fun _ => []) (by omega) ⟨none, 0, rfl, Nat.le_refl _, by omega, fun h => absurd rfl h⟩ ⟨none, 0, rfl, Nat.le_refl _, by omega, fun h => absurd rfl h⟩ (by simp) (fun h => absurd rfl h) (fun i t h => by simp at h)
end Go.Proofs.YtfchajjllhndlabGreatDoor

/- The reference's small functions: each hands back just these bytes. -/
namespace Go.Proofs.YtfchajjllhndlabGreatDoor
open Go Go.RowKit

/-- Function f hands back bytes of the call's own; below base nothing has turned. -/
def Gives (P : Program) (f : Nat) (args : Array Value) (w : World) (base : Nat) (new : List UInt8) : Prop := Calls P f args w (Appended base w new)

set_option maxRecDepth 100000 in
set_option maxHeartbeats 1600000 in
theorem spFixed1 (n : Int) (base : Nat) (w : World) (hb : base ≤ w.heap.size) : Gives Tryz.prog 201 #[.int .i64 n, .int .i64 1] w base (fixed n 1) := by
  have hown0 := Own.nil base w
  have hbel0 := Below.refl base w
  go_enter Tryz.func201, Tryz.ntmps201
  go_wp2_with fail
  refine wp_loop_rounds 2 ?_
  rw [rounds_succ]
  go_wp2_with (at_builtin; refine halted ?_)
  refine wpl_append_bytes bt rfl _ _ rfl base [] hown0 (Nat.le_trans hb hbel0.size) _ [bb n] ?_ rfl (by simp [lim]) ?_
  · simp only [List.map_cons, List.map_nil, byteV_bb]
  clear hown0
  intro v1 w1 hown1 hb1
  have hbel1 := hbel0.trans hb1
  clear hbel0 hb1
  go_wp2_with fail
  rw [rounds_succ]
  go_wp2
  go_ret
  exact .mk hown1 hbel1
set_option maxRecDepth 100000 in
set_option maxHeartbeats 1600000 in
theorem spFixed2 (n : Int) (base : Nat) (w : World) (hb : base ≤ w.heap.size) : Gives Tryz.prog 201 #[.int .i64 n, .int .i64 2] w base (fixed n 2) := by
  have hown0 := Own.nil base w
  have hbel0 := Below.refl base w
  go_enter Tryz.func201, Tryz.ntmps201
  go_wp2_with fail
  refine wp_loop_rounds 3 ?_
  rw [rounds_succ]
  go_wp2_with (at_builtin; refine halted ?_)
  refine wpl_append_bytes bt rfl _ _ rfl base [] hown0 (Nat.le_trans hb hbel0.size) _ [bb (n / 256)] ?_ rfl (by simp [lim]) ?_
  · simp only [List.map_cons, List.map_nil, byteV_bb]
  clear hown0
  intro v1 w1 hown1 hb1
  have hbel1 := hbel0.trans hb1
  clear hbel0 hb1
  go_wp2_with fail
  rw [rounds_succ]
  go_wp2_with (at_builtin; refine halted ?_)
  refine wpl_append_bytes bt rfl _ _ rfl base [bb (n / 256)] hown1 (Nat.le_trans hb hbel1.size) _ [bb n] ?_ rfl (by simp [lim]) ?_
  · simp only [List.map_cons, List.map_nil, byteV_bb]
  clear hown1
  intro v2 w2 hown2 hb2
  have hbel2 := hbel1.trans hb2
  clear hbel1 hb2
  go_wp2_with fail
  rw [rounds_succ]
  go_wp2
  go_ret
  exact .mk hown2 hbel2
set_option maxRecDepth 100000 in
set_option maxHeartbeats 1600000 in
theorem spFixed4 (n : Int) (base : Nat) (w : World) (hb : base ≤ w.heap.size) : Gives Tryz.prog 201 #[.int .i64 n, .int .i64 4] w base (fixed n 4) := by
  have hown0 := Own.nil base w
  have hbel0 := Below.refl base w
  go_enter Tryz.func201, Tryz.ntmps201
  go_wp2_with fail
  refine wp_loop_rounds 5 ?_
  rw [rounds_succ]
  go_wp2_with (at_builtin; refine halted ?_)
  refine wpl_append_bytes bt rfl _ _ rfl base [] hown0 (Nat.le_trans hb hbel0.size) _ [bb (n / 16777216)] ?_ rfl (by simp [lim]) ?_
  · simp only [List.map_cons, List.map_nil, byteV_bb]
  clear hown0
  intro v1 w1 hown1 hb1
  have hbel1 := hbel0.trans hb1
  clear hbel0 hb1
  go_wp2_with fail
  rw [rounds_succ]
  go_wp2_with (at_builtin; refine halted ?_)
  refine wpl_append_bytes bt rfl _ _ rfl base [bb (n / 16777216)] hown1 (Nat.le_trans hb hbel1.size) _ [bb (n / 65536)] ?_ rfl (by simp [lim]) ?_
  · simp only [List.map_cons, List.map_nil, byteV_bb]
  clear hown1
  intro v2 w2 hown2 hb2
  have hbel2 := hbel1.trans hb2
  clear hbel1 hb2
  go_wp2_with fail
  rw [rounds_succ]
  go_wp2_with (at_builtin; refine halted ?_)
  refine wpl_append_bytes bt rfl _ _ rfl base [bb (n / 16777216), bb (n / 65536)] hown2 (Nat.le_trans hb hbel2.size) _ [bb (n / 256)] ?_ rfl (by simp [lim]) ?_
  · simp only [List.map_cons, List.map_nil, byteV_bb]
  clear hown2
  intro v3 w3 hown3 hb3
  have hbel3 := hbel2.trans hb3
  clear hbel2 hb3
  go_wp2_with fail
  rw [rounds_succ]
  go_wp2_with (at_builtin; refine halted ?_)
  refine wpl_append_bytes bt rfl _ _ rfl base [bb (n / 16777216), bb (n / 65536), bb (n / 256)] hown3 (Nat.le_trans hb hbel3.size) _ [bb n] ?_ rfl (by simp [lim]) ?_
  · simp only [List.map_cons, List.map_nil, byteV_bb]
  clear hown3
  intro v4 w4 hown4 hb4
  have hbel4 := hbel3.trans hb4
  clear hbel3 hb4
  go_wp2_with fail
  rw [rounds_succ]
  go_wp2
  go_ret
  exact .mk hown4 hbel4
set_option maxRecDepth 100000 in
set_option maxHeartbeats 1600000 in
theorem spFixed8 (n : Int) (base : Nat) (w : World) (hb : base ≤ w.heap.size) : Gives Tryz.prog 201 #[.int .i64 n, .int .i64 8] w base (fixed n 8) := by
  have hown0 := Own.nil base w
  have hbel0 := Below.refl base w
  go_enter Tryz.func201, Tryz.ntmps201
  go_wp2_with fail
  refine wp_loop_rounds 9 ?_
  rw [rounds_succ]
  go_wp2_with (at_builtin; refine halted ?_)
  refine wpl_append_bytes bt rfl _ _ rfl base [] hown0 (Nat.le_trans hb hbel0.size) _ [bb (n / 72057594037927936)] ?_ rfl (by simp [lim]) ?_
  · simp only [List.map_cons, List.map_nil, byteV_bb]
  clear hown0
  intro v1 w1 hown1 hb1
  have hbel1 := hbel0.trans hb1
  clear hbel0 hb1
  go_wp2_with fail
  rw [rounds_succ]
  go_wp2_with (at_builtin; refine halted ?_)
  refine wpl_append_bytes bt rfl _ _ rfl base [bb (n / 72057594037927936)] hown1 (Nat.le_trans hb hbel1.size) _ [bb (n / 281474976710656)] ?_ rfl (by simp [lim]) ?_
  · simp only [List.map_cons, List.map_nil, byteV_bb]
  clear hown1
  intro v2 w2 hown2 hb2
  have hbel2 := hbel1.trans hb2
  clear hbel1 hb2
  go_wp2_with fail
  rw [rounds_succ]
  go_wp2_with (at_builtin; refine halted ?_)
  refine wpl_append_bytes bt rfl _ _ rfl base [bb (n / 72057594037927936), bb (n / 281474976710656)] hown2 (Nat.le_trans hb hbel2.size) _ [bb (n / 1099511627776)] ?_ rfl (by simp [lim]) ?_
  · simp only [List.map_cons, List.map_nil, byteV_bb]
  clear hown2
  intro v3 w3 hown3 hb3
  have hbel3 := hbel2.trans hb3
  clear hbel2 hb3
  go_wp2_with fail
  rw [rounds_succ]
  go_wp2_with (at_builtin; refine halted ?_)
  refine wpl_append_bytes bt rfl _ _ rfl base [bb (n / 72057594037927936), bb (n / 281474976710656), bb (n / 1099511627776)] hown3 (Nat.le_trans hb hbel3.size) _ [bb (n / 4294967296)] ?_ rfl (by simp [lim]) ?_
  · simp only [List.map_cons, List.map_nil, byteV_bb]
  clear hown3
  intro v4 w4 hown4 hb4
  have hbel4 := hbel3.trans hb4
  clear hbel3 hb4
  go_wp2_with fail
  rw [rounds_succ]
  go_wp2_with (at_builtin; refine halted ?_)
  refine wpl_append_bytes bt rfl _ _ rfl base [bb (n / 72057594037927936), bb (n / 281474976710656), bb (n / 1099511627776), bb (n / 4294967296)] hown4 (Nat.le_trans hb hbel4.size) _ [bb (n / 16777216)] ?_ rfl (by simp [lim]) ?_
  · simp only [List.map_cons, List.map_nil, byteV_bb]
  clear hown4
  intro v5 w5 hown5 hb5
  have hbel5 := hbel4.trans hb5
  clear hbel4 hb5
  go_wp2_with fail
  rw [rounds_succ]
  go_wp2_with (at_builtin; refine halted ?_)
  refine wpl_append_bytes bt rfl _ _ rfl base [bb (n / 72057594037927936), bb (n / 281474976710656), bb (n / 1099511627776), bb (n / 4294967296), bb (n / 16777216)] hown5 (Nat.le_trans hb hbel5.size) _ [bb (n / 65536)] ?_ rfl (by simp [lim]) ?_
  · simp only [List.map_cons, List.map_nil, byteV_bb]
  clear hown5
  intro v6 w6 hown6 hb6
  have hbel6 := hbel5.trans hb6
  clear hbel5 hb6
  go_wp2_with fail
  rw [rounds_succ]
  go_wp2_with (at_builtin; refine halted ?_)
  refine wpl_append_bytes bt rfl _ _ rfl base [bb (n / 72057594037927936), bb (n / 281474976710656), bb (n / 1099511627776), bb (n / 4294967296), bb (n / 16777216), bb (n / 65536)] hown6 (Nat.le_trans hb hbel6.size) _ [bb (n / 256)] ?_ rfl (by simp [lim]) ?_
  · simp only [List.map_cons, List.map_nil, byteV_bb]
  clear hown6
  intro v7 w7 hown7 hb7
  have hbel7 := hbel6.trans hb7
  clear hbel6 hb7
  go_wp2_with fail
  rw [rounds_succ]
  go_wp2_with (at_builtin; refine halted ?_)
  refine wpl_append_bytes bt rfl _ _ rfl base [bb (n / 72057594037927936), bb (n / 281474976710656), bb (n / 1099511627776), bb (n / 4294967296), bb (n / 16777216), bb (n / 65536), bb (n / 256)] hown7 (Nat.le_trans hb hbel7.size) _ [bb n] ?_ rfl (by simp [lim]) ?_
  · simp only [List.map_cons, List.map_nil, byteV_bb]
  clear hown7
  intro v8 w8 hown8 hb8
  have hbel8 := hbel7.trans hb8
  clear hbel7 hb8
  go_wp2_with fail
  rw [rounds_succ]
  go_wp2
  go_ret
  exact .mk hown8 hbel8

theorem bv64_and127 (n : Nat) (h : n < 18446744073709551616) : (BitVec.ofNat 64 n &&& BitVec.ofNat 64 127).toNat = n % 128 := by
  have e := Nat.and_two_pow_sub_one_eq_mod n 7
  rw [BitVec.toNat_and, BitVec.toNat_ofNat, BitVec.toNat_ofNat, Nat.mod_eq_of_lt h]
  exact e
theorem bv8_or128 (n : Nat) (h : n < 128) : (BitVec.ofNat 8 n ||| BitVec.ofNat 8 128).toNat = n + 128 := by
  have e := Nat.two_pow_add_eq_or_of_lt (i := 7) (b := n) h 1
  rw [BitVec.toNat_or, BitVec.toNat_ofNat, BitVec.toNat_ofNat, Nat.mod_eq_of_lt (by omega), Nat.or_comm]
  simp at e ⊢
  omega
theorem and127_64 (n : Nat) (h : n < 18446744073709551616) : bits BinOp.and IntKind.u64 (n : Int) 127 = ((n % 128 : Nat) : Int) := by
  have e := bv64_and127 n h
  have e2 : bits BinOp.and IntKind.u64 (n : Int) 127 = IntKind.u64.wrap (((BitVec.ofNat 64 n &&& BitVec.ofNat 64 127).toNat : Nat) : Int) := by
    unfold bits
    rfl
  rw [e2, e, IntKind.wrap_u64]
  omega
theorem or128_8 (n : Nat) (h : n < 128) : bits BinOp.or IntKind.u8 (n : Int) 128 = ((n + 128 : Nat) : Int) := by
  have e := bv8_or128 n h
  have e2 : bits BinOp.or IntKind.u8 (n : Int) 128 = IntKind.u8.wrap (((BitVec.ofNat 8 n ||| BitVec.ofNat 8 128).toNat : Nat) : Int) := by
    unfold bits
    rfl
  rw [e2, e, IntKind.wrap_u8]
  omega
theorem seven64 (n : Nat) (h : n < 18446744073709551616) : bits BinOp.or IntKind.u8 (bits BinOp.and IntKind.u64 (n : Int) 127 % 256) 128 = ((n % 128 + 128 : Nat) : Int) := by
  rw [and127_64 n h, show (((n % 128 : Nat) : Int) % 256) = ((n % 128 : Nat) : Int) by omega, or128_8 (n % 128) (by omega)]
set_option maxRecDepth 100000 in
set_option maxHeartbeats 1600000 in
theorem spUvarint1 (n : Nat) (h0 : 0 ≤ n) (h1 : n ≤ 127) (base : Nat) (w : World) (hb : base ≤ w.heap.size) : Gives Tryz.prog 142 #[.int .u64 n] w base (uv n) := by
  rw [uv1 (by omega)]
  have hown0 := Own.nil base w
  have hbel0 := Below.refl base w
  go_enter Tryz.func142, Tryz.ntmps142
  go_wp2_with fail
  refine wp_loop_rounds 1 ?_
  rw [rounds_succ]
  go_wp2_with (at_builtin; refine halted ?_)
  refine wpl_append_bytes bt rfl _ _ rfl base [] hown0 (Nat.le_trans hb hbel0.size) _ [UInt8.ofNat (n)] ?_ rfl (by simp [lim]) ?_
  · simp only [List.map_cons, List.map_nil, byteV_nat (show n < 256 by omega)]
    try rw [show ((((n) : Nat) : Int) % 256) = (((n) : Nat) : Int) by omega]
  intro v1 w1 hown1 hb1
  have hbel1 := hbel0.trans hb1
  go_wp2
  go_ret
  exact .mk hown1 hbel1
set_option maxRecDepth 100000 in
set_option maxHeartbeats 1600000 in
theorem spUvarint2 (n : Nat) (h0 : 128 ≤ n) (h1 : n ≤ 16383) (base : Nat) (w : World) (hb : base ≤ w.heap.size) : Gives Tryz.prog 142 #[.int .u64 n] w base (uv n) := by
  rw [uv2 (by omega) (by omega)]
  have hown0 := Own.nil base w
  have hbel0 := Below.refl base w
  go_enter Tryz.func142, Tryz.ntmps142
  go_wp2_with fail
  refine wp_loop_rounds 2 ?_
  rw [rounds_succ]
  go_wp2_with (at_builtin; refine halted ?_)
  refine wpl_append_bytes bt rfl _ _ rfl base [] hown0 (Nat.le_trans hb hbel0.size) _ [UInt8.ofNat (n % 128 + 128)] ?_ rfl (by simp [lim]) ?_
  · simp only [List.map_cons, List.map_nil, byteV_nat (show n % 128 + 128 < 256 by omega)]
    rw [seven64 (n) (by omega)]
  clear hown0
  intro v1 w1 hown1 hb1
  have hbel1 := hbel0.trans hb1
  clear hbel0 hb1
  go_wp2_with fail
  rw [rounds_succ]
  go_wp2_with (at_builtin; refine halted ?_)
  refine wpl_append_bytes bt rfl _ _ rfl base [UInt8.ofNat (n % 128 + 128)] hown1 (Nat.le_trans hb hbel1.size) _ [UInt8.ofNat (n / 128)] ?_ rfl (by simp [lim]) ?_
  · simp only [List.map_cons, List.map_nil, byteV_nat (show n / 128 < 256 by omega)]
    rw [show ((n : Int) / 128) = ((n / 128 : Nat) : Int) by omega]
    try rw [show ((((n / 128) : Nat) : Int) % 256) = (((n / 128) : Nat) : Int) by omega]
  intro v2 w2 hown2 hb2
  have hbel2 := hbel1.trans hb2
  go_wp2
  go_ret
  exact .mk hown2 hbel2
set_option maxRecDepth 100000 in
set_option maxHeartbeats 1600000 in
theorem spUvarint3 (n : Nat) (h0 : 16384 ≤ n) (h1 : n ≤ 2097151) (base : Nat) (w : World) (hb : base ≤ w.heap.size) : Gives Tryz.prog 142 #[.int .u64 n] w base (uv n) := by
  rw [uv3 (by omega) (by omega)]
  have hown0 := Own.nil base w
  have hbel0 := Below.refl base w
  go_enter Tryz.func142, Tryz.ntmps142
  go_wp2_with fail
  refine wp_loop_rounds 3 ?_
  rw [rounds_succ]
  go_wp2_with (at_builtin; refine halted ?_)
  refine wpl_append_bytes bt rfl _ _ rfl base [] hown0 (Nat.le_trans hb hbel0.size) _ [UInt8.ofNat (n % 128 + 128)] ?_ rfl (by simp [lim]) ?_
  · simp only [List.map_cons, List.map_nil, byteV_nat (show n % 128 + 128 < 256 by omega)]
    rw [seven64 (n) (by omega)]
  clear hown0
  intro v1 w1 hown1 hb1
  have hbel1 := hbel0.trans hb1
  clear hbel0 hb1
  go_wp2_with fail
  rw [rounds_succ]
  go_wp2_with (at_builtin; refine halted ?_)
  refine wpl_append_bytes bt rfl _ _ rfl base [UInt8.ofNat (n % 128 + 128)] hown1 (Nat.le_trans hb hbel1.size) _ [UInt8.ofNat (n / 128 % 128 + 128)] ?_ rfl (by simp [lim]) ?_
  · simp only [List.map_cons, List.map_nil, byteV_nat (show n / 128 % 128 + 128 < 256 by omega)]
    rw [show ((n : Int) / 128) = ((n / 128 : Nat) : Int) by omega]
    rw [seven64 (n / 128) (by omega)]
  clear hown1
  intro v2 w2 hown2 hb2
  have hbel2 := hbel1.trans hb2
  clear hbel1 hb2
  go_wp2_with fail
  rw [rounds_succ]
  go_wp2_with (at_builtin; refine halted ?_)
  refine wpl_append_bytes bt rfl _ _ rfl base [UInt8.ofNat (n % 128 + 128), UInt8.ofNat (n / 128 % 128 + 128)] hown2 (Nat.le_trans hb hbel2.size) _ [UInt8.ofNat (n / 16384)] ?_ rfl (by simp [lim]) ?_
  · simp only [List.map_cons, List.map_nil, byteV_nat (show n / 16384 < 256 by omega)]
    rw [show ((n : Int) / 128 / 128) = ((n / 16384 : Nat) : Int) by omega]
    try rw [show ((((n / 16384) : Nat) : Int) % 256) = (((n / 16384) : Nat) : Int) by omega]
  intro v3 w3 hown3 hb3
  have hbel3 := hbel2.trans hb3
  go_wp2
  go_ret
  exact .mk hown3 hbel3
set_option maxRecDepth 100000 in
set_option maxHeartbeats 1600000 in
theorem spUvarint4 (n : Nat) (h0 : 2097152 ≤ n) (h1 : n ≤ 268435455) (base : Nat) (w : World) (hb : base ≤ w.heap.size) : Gives Tryz.prog 142 #[.int .u64 n] w base (uv n) := by
  rw [uv4 (by omega) (by omega)]
  have hown0 := Own.nil base w
  have hbel0 := Below.refl base w
  go_enter Tryz.func142, Tryz.ntmps142
  go_wp2_with fail
  refine wp_loop_rounds 4 ?_
  rw [rounds_succ]
  go_wp2_with (at_builtin; refine halted ?_)
  refine wpl_append_bytes bt rfl _ _ rfl base [] hown0 (Nat.le_trans hb hbel0.size) _ [UInt8.ofNat (n % 128 + 128)] ?_ rfl (by simp [lim]) ?_
  · simp only [List.map_cons, List.map_nil, byteV_nat (show n % 128 + 128 < 256 by omega)]
    rw [seven64 (n) (by omega)]
  clear hown0
  intro v1 w1 hown1 hb1
  have hbel1 := hbel0.trans hb1
  clear hbel0 hb1
  go_wp2_with fail
  rw [rounds_succ]
  go_wp2_with (at_builtin; refine halted ?_)
  refine wpl_append_bytes bt rfl _ _ rfl base [UInt8.ofNat (n % 128 + 128)] hown1 (Nat.le_trans hb hbel1.size) _ [UInt8.ofNat (n / 128 % 128 + 128)] ?_ rfl (by simp [lim]) ?_
  · simp only [List.map_cons, List.map_nil, byteV_nat (show n / 128 % 128 + 128 < 256 by omega)]
    rw [show ((n : Int) / 128) = ((n / 128 : Nat) : Int) by omega]
    rw [seven64 (n / 128) (by omega)]
  clear hown1
  intro v2 w2 hown2 hb2
  have hbel2 := hbel1.trans hb2
  clear hbel1 hb2
  go_wp2_with fail
  rw [rounds_succ]
  go_wp2_with (at_builtin; refine halted ?_)
  refine wpl_append_bytes bt rfl _ _ rfl base [UInt8.ofNat (n % 128 + 128), UInt8.ofNat (n / 128 % 128 + 128)] hown2 (Nat.le_trans hb hbel2.size) _ [UInt8.ofNat (n / 16384 % 128 + 128)] ?_ rfl (by simp [lim]) ?_
  · simp only [List.map_cons, List.map_nil, byteV_nat (show n / 16384 % 128 + 128 < 256 by omega)]
    rw [show ((n : Int) / 128 / 128) = ((n / 16384 : Nat) : Int) by omega]
    rw [seven64 (n / 16384) (by omega)]
  clear hown2
  intro v3 w3 hown3 hb3
  have hbel3 := hbel2.trans hb3
  clear hbel2 hb3
  go_wp2_with fail
  rw [rounds_succ]
  go_wp2_with (at_builtin; refine halted ?_)
  refine wpl_append_bytes bt rfl _ _ rfl base [UInt8.ofNat (n % 128 + 128), UInt8.ofNat (n / 128 % 128 + 128), UInt8.ofNat (n / 16384 % 128 + 128)] hown3 (Nat.le_trans hb hbel3.size) _ [UInt8.ofNat (n / 2097152)] ?_ rfl (by simp [lim]) ?_
  · simp only [List.map_cons, List.map_nil, byteV_nat (show n / 2097152 < 256 by omega)]
    rw [show ((n : Int) / 128 / 128 / 128) = ((n / 2097152 : Nat) : Int) by omega]
    try rw [show ((((n / 2097152) : Nat) : Int) % 256) = (((n / 2097152) : Nat) : Int) by omega]
  intro v4 w4 hown4 hb4
  have hbel4 := hbel3.trans hb4
  go_wp2
  go_ret
  exact .mk hown4 hbel4
set_option maxRecDepth 100000 in
set_option maxHeartbeats 1600000 in
theorem spUvarint5 (n : Nat) (h0 : 268435456 ≤ n) (h1 : n ≤ 4294967295) (base : Nat) (w : World) (hb : base ≤ w.heap.size) : Gives Tryz.prog 142 #[.int .u64 n] w base (uv n) := by
  rw [uv5 (by omega) (by omega)]
  have hown0 := Own.nil base w
  have hbel0 := Below.refl base w
  go_enter Tryz.func142, Tryz.ntmps142
  go_wp2_with fail
  refine wp_loop_rounds 5 ?_
  rw [rounds_succ]
  go_wp2_with (at_builtin; refine halted ?_)
  refine wpl_append_bytes bt rfl _ _ rfl base [] hown0 (Nat.le_trans hb hbel0.size) _ [UInt8.ofNat (n % 128 + 128)] ?_ rfl (by simp [lim]) ?_
  · simp only [List.map_cons, List.map_nil, byteV_nat (show n % 128 + 128 < 256 by omega)]
    rw [seven64 (n) (by omega)]
  clear hown0
  intro v1 w1 hown1 hb1
  have hbel1 := hbel0.trans hb1
  clear hbel0 hb1
  go_wp2_with fail
  rw [rounds_succ]
  go_wp2_with (at_builtin; refine halted ?_)
  refine wpl_append_bytes bt rfl _ _ rfl base [UInt8.ofNat (n % 128 + 128)] hown1 (Nat.le_trans hb hbel1.size) _ [UInt8.ofNat (n / 128 % 128 + 128)] ?_ rfl (by simp [lim]) ?_
  · simp only [List.map_cons, List.map_nil, byteV_nat (show n / 128 % 128 + 128 < 256 by omega)]
    rw [show ((n : Int) / 128) = ((n / 128 : Nat) : Int) by omega]
    rw [seven64 (n / 128) (by omega)]
  clear hown1
  intro v2 w2 hown2 hb2
  have hbel2 := hbel1.trans hb2
  clear hbel1 hb2
  go_wp2_with fail
  rw [rounds_succ]
  go_wp2_with (at_builtin; refine halted ?_)
  refine wpl_append_bytes bt rfl _ _ rfl base [UInt8.ofNat (n % 128 + 128), UInt8.ofNat (n / 128 % 128 + 128)] hown2 (Nat.le_trans hb hbel2.size) _ [UInt8.ofNat (n / 16384 % 128 + 128)] ?_ rfl (by simp [lim]) ?_
  · simp only [List.map_cons, List.map_nil, byteV_nat (show n / 16384 % 128 + 128 < 256 by omega)]
    rw [show ((n : Int) / 128 / 128) = ((n / 16384 : Nat) : Int) by omega]
    rw [seven64 (n / 16384) (by omega)]
  clear hown2
  intro v3 w3 hown3 hb3
  have hbel3 := hbel2.trans hb3
  clear hbel2 hb3
  go_wp2_with fail
  rw [rounds_succ]
  go_wp2_with (at_builtin; refine halted ?_)
  refine wpl_append_bytes bt rfl _ _ rfl base [UInt8.ofNat (n % 128 + 128), UInt8.ofNat (n / 128 % 128 + 128), UInt8.ofNat (n / 16384 % 128 + 128)] hown3 (Nat.le_trans hb hbel3.size) _ [UInt8.ofNat (n / 2097152 % 128 + 128)] ?_ rfl (by simp [lim]) ?_
  · simp only [List.map_cons, List.map_nil, byteV_nat (show n / 2097152 % 128 + 128 < 256 by omega)]
    rw [show ((n : Int) / 128 / 128 / 128) = ((n / 2097152 : Nat) : Int) by omega]
    rw [seven64 (n / 2097152) (by omega)]
  clear hown3
  intro v4 w4 hown4 hb4
  have hbel4 := hbel3.trans hb4
  clear hbel3 hb4
  go_wp2_with fail
  rw [rounds_succ]
  go_wp2_with (at_builtin; refine halted ?_)
  refine wpl_append_bytes bt rfl _ _ rfl base [UInt8.ofNat (n % 128 + 128), UInt8.ofNat (n / 128 % 128 + 128), UInt8.ofNat (n / 16384 % 128 + 128), UInt8.ofNat (n / 2097152 % 128 + 128)] hown4 (Nat.le_trans hb hbel4.size) _ [UInt8.ofNat (n / 268435456)] ?_ rfl (by simp [lim]) ?_
  · simp only [List.map_cons, List.map_nil, byteV_nat (show n / 268435456 < 256 by omega)]
    rw [show ((n : Int) / 128 / 128 / 128 / 128) = ((n / 268435456 : Nat) : Int) by omega]
    try rw [show ((((n / 268435456) : Nat) : Int) % 256) = (((n / 268435456) : Nat) : Int) by omega]
  intro v5 w5 hown5 hb5
  have hbel5 := hbel4.trans hb5
  go_wp2
  go_ret
  exact .mk hown5 hbel5
theorem spUvarint (n : Nat) (h : n ≤ 4294967295) (base : Nat) (w : World) (hb : base ≤ w.heap.size) : Gives Tryz.prog 142 #[.int .u64 n] w base (uv n) := by
  by_cases h1 : n ≤ 127
  · exact spUvarint1 n (by omega) h1 base w hb
  by_cases h2 : n ≤ 16383
  · exact spUvarint2 n (by omega) h2 base w hb
  by_cases h3 : n ≤ 2097151
  · exact spUvarint3 n (by omega) h3 base w hb
  by_cases h4 : n ≤ 268435455
  · exact spUvarint4 n (by omega) h4 base w hb
  · exact spUvarint5 n (by omega) h base w hb
end Go.Proofs.YtfchajjllhndlabGreatDoor

/- The reference's small functions over fields and trees. -/
namespace Go.Proofs.YtfchajjllhndlabGreatDoor
open Go Go.RowKit
set_option linter.unusedVariables false

/-- Function f answers v; below base nothing has turned. -/
def Says (P : Program) (f : Nat) (args : Array Value) (w : World) (base : Nat) (v : Value) : Prop := Calls P f args w fun e w' => e = .returned v ∧ Below base w w'

set_option maxHeartbeats 400000 in
theorem spWidth (k : Int) (w : World) : Calls Tryz.prog 202 #[.int .i64 k] w fun e w' => e = .returned (.int .i64 (pWidth k : Nat)) ∧ w' = w := by
  unfold pWidth
  by_cases h1 : k = 1
  · subst h1
    go_enter Tryz.func202, Tryz.ntmps202
    go_wp2
    go_ret
    exact ⟨rfl, rfl⟩
  by_cases h2 : k = 2
  · subst h2
    go_enter Tryz.func202, Tryz.ntmps202
    go_wp2
    go_ret
    exact ⟨rfl, rfl⟩
  by_cases h5 : k = 5
  · subst h5
    go_enter Tryz.func202, Tryz.ntmps202
    go_wp2
    go_ret
    exact ⟨rfl, rfl⟩
  by_cases h3 : k = 3
  · subst h3
    go_enter Tryz.func202, Tryz.ntmps202
    go_wp2
    go_ret
    exact ⟨rfl, rfl⟩
  · go_enter Tryz.func202, Tryz.ntmps202
    go_wp2
    go_ret
    simp

set_option maxHeartbeats 800000 in
theorem spHas (k fr to nu tg df ok : Int) (sv : Value) (ver : Int) (base : Nat) (w : World) (hb : base ≤ w.heap.size) :
    Says Tryz.prog 137 #[.agg #[.int .i64 k, .int .i64 fr, .int .i64 to, .int .i64 nu, .int .i64 tg, .int .i64 df, .int .i64 ok, sv], .int .i64 ver] w base (.bool (pHas fr to ver)) := by
  have hbel := (Below.refl base w).alloc hb
  unfold pHas
  by_cases h1 : fr ≤ ver <;> by_cases h2 : to < 0 <;> by_cases h3 : ver ≤ to <;>
  · go_enter Tryz.func137, Tryz.ntmps137
    go_wp2
    go_ret
    refine ⟨?_, hbel _⟩
    simp [h1, h2, h3]

set_option maxHeartbeats 800000 in
theorem spNull (k fr to nu tg df ok : Int) (sv : Value) (ver n : Int) (s : Value) (b : Bool) (l u : Value) (base : Nat) (w : World) (hb : base ≤ w.heap.size) :
    Says Tryz.prog 197 #[.agg #[.int .i64 k, .int .i64 fr, .int .i64 to, .int .i64 nu, .int .i64 tg, .int .i64 df, .int .i64 ok, sv], .int .i64 ver, .agg #[.int .i64 n, s, .bool b, l, u]] w base
      (.bool (b && decide (0 ≤ nu) && decide (nu ≤ ver))) := by
  have hbel := (Below.refl base w).alloc hb
  have hbel2 := fun o o' => (hbel o).alloc (Nat.le_trans hb (by simp)) o'
  cases b <;> by_cases h2 : 0 ≤ nu <;> by_cases h3 : nu ≤ ver <;>
  · go_enter Tryz.func197, Tryz.ntmps197
    go_wp2
    go_ret
    refine ⟨?_, hbel2 _ _⟩
    simp [h2, h3]

theorem takeCount (n : Nat) : (min (n : Int) 32767).toNat = min n 32767 := by omega
set_option maxHeartbeats 400000 in
theorem spWhole (s : List UInt8) (v : Value) (B : Nat) (w : World) (h : RL B w v s) : Calls Tryz.prog 144 #[v] w fun e w' => ∃ v', e = .returned v' ∧ RL B w v' (whole s) ∧ w = w' := by
  obtain ⟨a, cap, rfl, h1, h2, h3⟩ := h
  have H := Lib.hid h3
  clear h3
  go_enter Tryz.func144, Tryz.ntmps144
  go_wp2
  go_ret
  have hl : (whole s).length = min s.length 32767 := by unfold whole; rw [List.length_take]; omega
  refine ⟨_, rfl, ⟨a, cap, ?_, by omega, h2, fun hne => ?_⟩, rfl⟩
  · rw [hl, ← takeCount]
    rfl
  · have hs : s ≠ [] := by
      intro e
      subst e
      exact hne (by simp [whole])
    obtain ⟨b, o, ha, hb, hc⟩ := H.out hs
    refine ⟨b, o, ha, hb, fun i u hi => hc i u ?_⟩
    unfold whole at hi
    rw [List.getElem?_take] at hi
    split at hi
    · exact hi
    · cases hi

/-- Trees behind a slice's value. -/
def RepL (B : Nat) (w : World) (l : List Tree) (v : Value) : Prop :=
  ∃ (a : Option Addr) (cap : Nat) (f : Nat → List Value), v = .slice a l.length cap ∧ l.length ≤ cap ∧ cap ≤ 9223372036854775807 ∧
    (l ≠ [] → ∃ p q, a = some ⟨p, q, none⟩ ∧ p < B ∧ ∀ i, i < l.length → (f i).length = 5 ∧ ∀ j v, (f i)[j]? = some v → w.cell? ⟨p, q + 5 * i + j, none⟩ = some v) ∧
    ∀ i t, l[i]? = some t → RepT B w (f i) t
theorem RepL.keep {B : Nat} {w w' : World} {l : List Tree} {v : Value} (h : RepL B w l v) (hk : Below B w w') : RepL B w' l v := by
  obtain ⟨a, cap, f, hv, h1, h2, hl, hf⟩ := h
  refine ⟨a, cap, f, hv, h1, h2, fun hne => ?_, fun i t hi => (hf i t hi).keep hk⟩
  obtain ⟨p, q, ha, hp, h⟩ := hl hne
  exact ⟨p, q, ha, hp, fun i hi => ⟨(h i hi).1, fun j v hj => (hk.cell (p := ⟨p, _, none⟩) hp).trans ((h i hi).2 j v hj)⟩⟩
theorem RepT.parts {B : Nat} {w : World} {c : List Value} {t : Tree} (h : RepT B w c t) :
    ∃ sv lv uv, c = [.int .i64 t.n, sv, .bool t.null, lv, uv] ∧ (-9223372036854775808 ≤ t.n ∧ t.n ≤ 9223372036854775807) ∧ RL B w sv t.s ∧ RepL B w t.l lv ∧ RepU B w t.u uv := by
  cases h with
  | mk n s null l u sv uv a cap f hn hs hu hcap hl hf => exact ⟨sv, _, uv, rfl, hn, hs, ⟨a, cap, f, rfl, hcap.1, hcap.2, hl, hf⟩, hu⟩
theorem RepT.ofParts {B : Nat} {w : World} {n : Int} {s : List UInt8} {null : Bool} {l : List Tree} {u : List (Nat × List UInt8)} {sv lv uv : Value}
    (hn : -9223372036854775808 ≤ n ∧ n ≤ 9223372036854775807) (hs : RL B w sv s) (hl : RepL B w l lv) (hu : RepU B w u uv) : RepT B w [.int .i64 n, sv, .bool null, lv, uv] (.mk n s null l u) := by
  obtain ⟨a, cap, f, rfl, h1, h2, h3, h4⟩ := hl
  exact .mk n s null l u sv uv a cap f hn hs hu ⟨h1, h2⟩ h3 h4
theorem RepT.len {B : Nat} {w : World} {c : List Value} {t : Tree} (h : RepT B w c t) : c.length = 5 := by
  obtain ⟨sv, lv, uv, rfl, -⟩ := h.parts
  rfl

set_option maxHeartbeats 400000 in
theorem spThings (l : List Tree) (v : Value) (B : Nat) (w : World) (h : RepL B w l v) : Calls Tryz.prog 198 #[v] w fun e w' => ∃ v', e = .returned v' ∧ RepL B w (l.take 32767) v' ∧ w = w' := by
  obtain ⟨a, cap, f, rfl, h1, h2, h3, h4⟩ := h
  have H := Lib.hid h3
  have H4 := Lib.hid h4
  clear h3 h4
  go_enter Tryz.func198, Tryz.ntmps198
  go_wp2
  go_ret
  have hl : (l.take 32767).length = min l.length 32767 := by rw [List.length_take]; omega
  refine ⟨_, rfl, ⟨a, cap, f, ?_, by omega, h2, fun hne => ?_, fun i t hi => H4.out i t ?_⟩, rfl⟩
  · rw [hl, ← takeCount]
    rfl
  · have hs : l ≠ [] := by
      intro e
      subst e
      exact hne (by simp)
    obtain ⟨p, q, ha, hp, hc⟩ := H.out hs
    exact ⟨p, q, ha, hp, fun i hi => hc i (by omega)⟩
  · rw [List.getElem?_take] at hi
    split at hi
    · exact hi
    · cases hi

theorem Own.fresh (base : Nat) (w : World) (hb : base ≤ w.heap.size) (bs : List UInt8) (hl : bs.length ≤ 9223372036854775807 := by decide) :
    Own base (w.alloc (.cells (bs.map byteV).toArray 5)) (.slice (some ⟨w.heap.size, 0, none⟩) bs.length bs.length) bs := by
  refine ⟨by simp, .inr ⟨w.heap.size, bs.length, _, rfl, hb, heap_alloc_new w _, Nat.le_refl _, hl, by simp, ?_⟩⟩
  show List.take (bs.length * 1) (bs.map byteV) = bs.map byteV
  rw [Nat.mul_one]
  exact List.take_of_length_le (by simp)
theorem Blk.alloc_new2 (w : World) (o : Obj) (c : List Value) (T : Nat) : Blk ((w.alloc o).alloc (.cells c.toArray T)) (w.heap.size + 1) c T := by
  have h := Blk.alloc_new (w.alloc o) c T
  rwa [show (w.alloc o).heap.size = w.heap.size + 1 by simp] at h
theorem treeUnder : ∃ fs, Tryz.prog.underlying 26 = some (.struct fs) := ⟨_, Tryz.underlying26⟩
theorem treeSize : (Tryz.prog.info? 26).map (·.size) = some 5 := by kernel_rfl
theorem ret_tree {f : Nat} {fn : Func} {p : Tmp} {R : Ending → World → Prop} {a : Act} {w : World} {g : Nat} {cs : List Value} (hr : fn.results = #[.cell p 26]) (hp : a.tmps.getD p undef = .pointer (some ⟨g, 0, none⟩))
    (hg : Blk w g cs 26) (hs : cs.length = 5) (hd : a.defers = []) (h : R (.returned (.agg cs.toArray)) w) : bodyPost Tryz.prog fn R .ret a w := by
  obtain ⟨fs, hu⟩ := treeUnder
  exact bodyPost_ret_by (results_cell_row hr _ _ g _ _ (0, 0) _ hp hg hu rfl (by rw [treeSize]; simp [hs])) hd h

set_option maxRecDepth 100000 in
set_option maxHeartbeats 800000 in
theorem spCounted (flex null : Bool) (n : Nat) (size : Int) (hn : n ≤ 32768) (hs : size = 2 ∨ size = 4) (base : Nat) (w : World) (hb : base ≤ w.heap.size) :
    Gives Tryz.prog 199 #[.bool flex, .bool null, .int .i64 n, .int .i64 size] w base (counted flex null n size.toNat) := by
  unfold counted
  cases flex <;> cases null
  · rcases hs with rfl | rfl
    · go_enter Tryz.func199, Tryz.ntmps199
      go_wp2_with fail
      refine (spFixed2 n base w hb).mono ?_
      rintro e w' ⟨v', rfl, hown, hbel⟩
      go_wp2
      go_ret
      exact .mk hown hbel
    · go_enter Tryz.func199, Tryz.ntmps199
      go_wp2_with fail
      refine (spFixed4 n base w hb).mono ?_
      rintro e w' ⟨v', rfl, hown, hbel⟩
      go_wp2
      go_ret
      exact .mk hown hbel
  · rcases hs with rfl | rfl
    · go_enter Tryz.func199, Tryz.ntmps199
      go_wp2_with fail
      refine (spFixed2 (-1) base w hb).mono ?_
      rintro e w' ⟨v', rfl, hown, hbel⟩
      go_wp2
      go_ret
      exact .mk hown hbel
    · go_enter Tryz.func199, Tryz.ntmps199
      go_wp2_with fail
      refine (spFixed4 (-1) base w hb).mono ?_
      rintro e w' ⟨v', rfl, hown, hbel⟩
      go_wp2
      go_ret
      exact .mk hown hbel
  · go_enter Tryz.func199, Tryz.ntmps199
    go_wp2_with fail
    refine (spUvarint (n + 1) (by omega) base w hb).mono ?_
    rintro e w' ⟨v', rfl, hown, hbel⟩
    go_wp2
    go_ret
    exact .mk hown hbel
  · go_enter Tryz.func199, Tryz.ntmps199
    go_wp2
    go_ret
    exact .mk (Own.fresh base w hb [0]) ((Below.refl base w).alloc hb _)

set_option maxRecDepth 100000 in
set_option maxHeartbeats 800000 in
theorem spAt (t : Tree) (c : List Value) (i : Nat) (B base : Nat) (w : World) (hB : B ≤ base) (hb : base ≤ w.heap.size) (h : RepT B w c t) (hi : i ≤ 9223372036854775807) :
    Calls Tryz.prog 139 #[.agg c.toArray, .int .i64 i] w fun e w' => ∃ c', e = .returned (.agg c'.toArray) ∧ RepT B w' c' (atT t i) ∧ Below base w w' := by
  have hbel := (Below.refl base w).alloc hb
  have hbel2 := fun o o' => (hbel o).alloc (Nat.le_trans hb (by simp)) o'
  obtain ⟨sv, lv, uv, rfl, hn, hs, ⟨a, cap, f, rfl, h1, h2, h3, h4⟩, hu⟩ := h.parts
  by_cases hl : i < t.l.length
  · obtain ⟨p, q, rfl, hp, h5⟩ := h3 (by intro e; rw [e] at hl; simp at hl)
    have hget : t.l[i]? = some (t.l[i]) := List.getElem?_eq_getElem hl
    have hat : atT t i = t.l[i] := by simp [atT, hget]
    have hr := h4 i _ hget
    rw [← hat] at hr
    obtain ⟨sv', lv', uv', hc', -, ⟨sa, sc, rfl, -⟩, ⟨la, lc, lf, rfl, -⟩, ⟨ua, uc, rfl, -⟩⟩ := hr.parts
    have h6 := (h5 i hl).2
    rw [hc'] at h6
    have hps : p < w.heap.size := by omega
    have key : ∀ (o o' : Obj) j x, [Value.int .i64 (atT t i).n, .slice sa (atT t i).s.length sc, .bool (atT t i).null, .slice la (atT t i).l.length lc, .slice ua (atT t i).u.length uc][j]? = some x → ((w.alloc o).alloc o').cell? ⟨p, q + i * 5 + j, none⟩ = some x := by
      intro o o' j x hj
      have := h6 j x hj
      rw [Nat.mul_comm 5 i] at this
      exact ((hbel2 o o').cell (p := ⟨p, _, none⟩) (by show p < base; omega)).trans this
    have c0 := fun o o' => key o o' 0 _ rfl
    have c1 := fun o o' => key o o' 1 _ rfl
    have c2 := fun o o' => key o o' 2 _ rfl
    have c3 := fun o o' => key o o' 3 _ rfl
    have c4 := fun o o' => key o o' 4 _ rfl
    simp only [Nat.add_zero] at c0
    have R := Lib.hid (And.intro hr hc')
    clear h3 h4 h5 h6 hr hc' hget hat hs hu hn h key
    go_enter Tryz.func139, Tryz.ntmps139
    go_wp2
    refine ret_tree (f := 0) (g := w.heap.size + 1) (cs := [.int .i64 (atT t i).n, .slice sa (atT t i).s.length sc, .bool (atT t i).null, .slice la (atT t i).l.length lc, .slice ua (atT t i).u.length uc]) rfl rfl (.alloc_new2 _ _ _ _) rfl rfl ⟨_, rfl, ?_, hbel2 _ _⟩
    have hr := R.out.1
    rw [R.out.2] at hr
    exact hr.keep ((hbel2 _ _).mono hB)
  · have hat : atT t i = .zero := by simp [atT, List.getElem?_eq_none (by omega : t.l.length ≤ i)]
    rw [hat]
    clear h3 h4 hs hu hn h hat
    go_enter Tryz.func139, Tryz.ntmps139
    go_wp2
    exact ret_tree (f := 0) (g := w.heap.size + 1) (cs := [.int .i64 0, .slice none 0 0, .bool false, .slice none 0 0, .slice none 0 0]) rfl rfl (.alloc_new2 _ _ _ _) rfl rfl ⟨_, rfl, RepT.zero _ _, hbel2 _ _⟩
end Go.Proofs.YtfchajjllhndlabGreatDoor

/- What the reference writes of a value, a field and a part: by what it writes of the parts below. -/
namespace Go.Proofs.YtfchajjllhndlabGreatDoor
open Go Go.RowKit

theorem spFixed (n : Int) (k : Int) (base : Nat) (w : World) (hb : base ≤ w.heap.size) : Gives Tryz.prog 201 #[.int .i64 n, .int .i64 ((pWidth k : Nat) : Int)] w base (fixed n (pWidth k)) := by
  have h : pWidth k = 1 ∨ pWidth k = 2 ∨ pWidth k = 4 ∨ pWidth k = 8 := by
    unfold pWidth
    split
    · simp
    split
    · simp
    split <;> simp
  rcases h with h | h | h | h <;> rw [h]
  · exact spFixed1 n base w hb
  · exact spFixed2 n base w hb
  · exact spFixed4 n base w hb
  · exact spFixed8 n base w hb

set_option maxRecDepth 100000 in
set_option maxHeartbeats 800000 in
theorem spValueNum (k : Int) (h0 : k ≠ 0) (h7 : k ≠ 7) (h8 : k ≠ 8) (h9 : k ≠ 9) (h10 : k ≠ 10) (fv : Value) (null : Bool) (ver : Int) (flex : Bool) (n : Int) (sv lv uv : Value) (nb : Bool) (base : Nat) (w : World) (hb : base ≤ w.heap.size) :
    Gives Tryz.prog 200 #[.int .i64 k, fv, .bool null, .int .i64 ver, .bool flex, .agg #[.int .i64 n, sv, .bool nb, lv, uv]] w base (fixed n (pWidth k)) := by
  have hbel := (Below.refl base w).alloc hb
  go_enter Tryz.func200, Tryz.ntmps200
  go_wp2
  refine wp_region_still_tail 4 (by kernel_rfl) (by kernel_rfl) ?_
  simp only [List.take_succ_cons, List.take_zero, List.drop_succ_cons, List.drop_zero]
  have hbel2 := (hbel (Obj.cells #[.int .i64 n, sv, .bool nb, lv, uv] 26)).drew
  have hcell := ((Blk.alloc_new w [.int .i64 n, sv, .bool nb, lv, uv] 26).drew).cell_some (i := 0) rfl
  change wpStill _ _ (World.drew (w.alloc (Obj.cells #[.int .i64 n, sv, .bool nb, lv, uv] 26))) (fun a' => wpList _ _ _ _ a' (World.drew (w.alloc (Obj.cells #[.int .i64 n, sv, .bool nb, lv, uv] 26)))) _ _
  change (World.drew (w.alloc (Obj.cells #[.int .i64 n, sv, .bool nb, lv, uv] 26))).cell? _ = _ at hcell
  generalize World.drew (w.alloc (Obj.cells #[.int .i64 n, sv, .bool nb, lv, uv] 26)) = w2 at *
  repeat still_step
  still_call (spWidth k _)
  refine wpStill_nil ?_
  go_wp2_with fail
  refine (spFixed n k base w2 (Nat.le_trans hb hbel2.size)).mono ?_
  rintro e w' ⟨v', rfl, hown, hb2⟩
  go_wp2
  go_ret
  exact .mk hown (hbel2.trans hb2)

theorem and1_64 (n : Int) : bits BinOp.and IntKind.i64 n 1 % 256 = n % 2 := by
  have e2 : bits BinOp.and IntKind.i64 n 1 = IntKind.i64.wrap (((BitVec.ofInt 64 n &&& BitVec.ofInt 64 1).toNat : Nat) : Int) := by
    unfold bits
    rfl
  have e : (BitVec.ofInt 64 n &&& BitVec.ofInt 64 1).toNat = (n % 2).toNat := by
    have h := Nat.and_one_is_mod (n % 18446744073709551616).toNat
    rw [BitVec.toNat_and, BitVec.toNat_ofInt, BitVec.toNat_ofInt]
    simp
    omega
  rw [e2, e, IntKind.wrap_i64]
  omega

set_option maxRecDepth 100000 in
set_option maxHeartbeats 800000 in
theorem spValueBool (fv : Value) (null : Bool) (ver : Int) (flex : Bool) (n : Int) (sv lv uv : Value) (nb : Bool) (base : Nat) (w : World) (hb : base ≤ w.heap.size) :
    Gives Tryz.prog 200 #[.int .i64 0, fv, .bool null, .int .i64 ver, .bool flex, .agg #[.int .i64 n, sv, .bool nb, lv, uv]] w base [bb (n % 2)] := by
  have hbel := (Below.refl base w).alloc hb
  go_enter Tryz.func200, Tryz.ntmps200
  go_wp2
  go_ret
  have h := Own.fresh base (w.alloc (.cells #[.int .i64 n, sv, .bool nb, lv, uv] 26)) (Nat.le_trans hb (by simp)) [bb (n % 2)] (by simp)
  simp only [List.map_cons, List.map_nil, byteV_bb] at h
  rw [show n % 2 % 256 = bits BinOp.and IntKind.i64 n 1 % 256 by rw [and1_64]; omega] at h
  rw [show (w.alloc (.cells #[.int .i64 n, sv, .bool nb, lv, uv] 26)).heap.size = w.heap.size + 1 by simp] at h
  exact .mk h ((hbel _).alloc (Nat.le_trans hb (by simp)) _)

theorem halt_copy {P : Program} {w : World} {ops : Array Oper} {rest : List Oper} {a : Act} {Q : Exit → Act → World → Prop} {d x y : Nat} {t : Array TypeId} {ty : TypeId} {pos : String} {af : Array Edge}
    (h : Halted (wpList P ops Q (⟨some d, .call { callee := .builtin .copy, args := #[.tmp x, .tmp y], argTypes := t }, ty, pos, af, none⟩ :: rest) a w)) : wpList P ops Q (⟨some d, .call { callee := .builtin .copy, args := #[.tmp x, .tmp y], argTypes := t }, ty, pos, af, none⟩ :: rest) a w := h
theorem RL.nil (B : Nat) (w : World) : RL B w (.slice none 0 0) [] := ⟨none, 0, rfl, Nat.le_refl _, by omega, fun h => absurd rfl h⟩
theorem RL.mono {B B' : Nat} {w : World} {v : Value} {bs : List UInt8} (h : RL B w v bs) (hB : B ≤ B') : RL B' w v bs := by
  obtain ⟨a, cap, hv, h1, h2, h3⟩ := h
  refine ⟨a, cap, hv, h1, h2, fun hne => ?_⟩
  obtain ⟨b, o, ha, hb, hc⟩ := h3 hne
  exact ⟨b, o, ha, by omega, hc⟩
theorem fixed_length (n : Int) (k : Nat) : (fixed n k).length ≤ 8 := by
  unfold fixed
  split
  · simp
  split
  · simp [be16]
  split <;> simp [be32, be64]
theorem counted_length (flex null : Bool) (n k : Nat) : (counted flex null n k).length ≤ 100 := by
  unfold counted
  have h1 := fixed_length (-1) k
  have h2 := fixed_length n k
  have h3 := uv_length (n + 1)
  cases flex <;> cases null <;> simp <;> omega
/-- 16 octets, all 0. -/
def zz16 : List Value := List.replicate 16 (.int .u8 0)
theorem makes16 (w : World) : (Instr.makeSlice 22 (.int .i64 16) (.int .i64 16)).run Tryz.prog w = .ok (.slice (some ⟨w.heap.size, 0, none⟩) 16 16) (w.alloc (.cells zz16.toArray 5)) := by kernel_rfl
theorem uuid16_cells (s : List UInt8) : splice zz16 0 ((s.take 16).map byteV) = (uuid16 s).map byteV := by
  unfold splice uuid16 zz16
  simp only [List.take_zero, List.nil_append, Nat.zero_add, List.length_map, List.length_take]
  by_cases h : s.length ≤ 16
  · rw [List.take_of_length_le h, List.take_append, List.take_of_length_le h, List.map_append, List.take_replicate, List.map_replicate, List.drop_replicate]
    congr 3
    omega
  · rw [List.take_append_of_le_length (by omega), List.drop_of_length_le (by simp; omega), List.append_nil]
theorem uuid16_length (s : List UInt8) : (uuid16 s).length = 16 := by simp [uuid16]
set_option maxRecDepth 100000 in
set_option maxHeartbeats 800000 in
theorem spValueUuid (fv : Value) (null : Bool) (ver : Int) (flex : Bool) (n : Int) (s : List UInt8) (sv lv uv : Value) (nb : Bool) (base B : Nat) (w : World) (hB : B ≤ base) (hb : base ≤ w.heap.size) (hs : RL B w sv s) :
    Gives Tryz.prog 200 #[.int .i64 7, fv, .bool null, .int .i64 ver, .bool flex, .agg #[.int .i64 n, sv, .bool nb, lv, uv]] w base (uuid16 s) := by
  obtain ⟨a, cap, rfl, h1, h2, h3⟩ := hs
  have H := Lib.hid h3
  clear h3
  have hm := makes16
  go_enter Tryz.func200, Tryz.ntmps200
  go_wp2_with (with_reducible refine halt_copy ?_)
  have hb1 := fun o => (Below.refl base w).alloc hb o
  have hb2 := fun o o' => (hb1 o).alloc (Nat.le_trans hb (by simp)) o'
  have hlen : ((s.take 16).map byteV).length = Nat.min s.length 16 := by rw [List.length_map, List.length_take]; exact Nat.min_comm _ _
  refine wpList_copy_splice rfl (.tmp 27) (.tmp 29) 22 22 rfl 5 Tryz.underlying22 (by kernel_rfl) (some ⟨w.heap.size + 1, 0, none⟩) a 16 16 s.length cap rfl rfl (w.heap.size + 1) 0 zz16 5 (Blk.alloc_new2 w _ zz16 _) ((s.take 16).map byteV) hlen
    (fun hp => ⟨rfl, ?_⟩) (by simp [zz16]; omega) (by intro v hv; obtain ⟨_, _, rfl⟩ := List.mem_map.1 hv; rfl) base w (hb2 _ _) (by omega) ?_
  · have hne : s ≠ [] := by
      intro e
      subst e
      simp at hp
    obtain ⟨b, o, ha, hbB, hc⟩ := H.out hne
    refine ⟨_, ha, fun j v hj => ?_⟩
    rw [Addr.add_lit]
    simp only [List.getElem?_map, List.getElem?_take] at hj
    split at hj
    · cases hu : s[j]? with
      | none => simp [hu] at hj
      | some u =>
        rw [hu] at hj
        cases hj
        exact ((hb2 _ _).cell (p := ⟨b, _, none⟩) (by show b < base; omega)).trans (hc j u hu)
    · simp at hj
  intro w3 hw3 hbel3
  have hw3 := hw3.out
  rw [uuid16_cells] at hw3
  have W3 := Lib.hid hw3
  clear hw3 H
  go_wp2
  go_ret
  refine .mk (v' := .slice (some ⟨w.heap.size + 1, 0, none⟩) 16 16) ⟨?_, .inr ⟨w.heap.size + 1, 16, _, ?_, by omega, W3.out, ?_, by simp [maxLen], ?_, ?_⟩⟩ hbel3
  · rw [Nat.mul_one]; simp
  · rw [uuid16_length]
  · rw [uuid16_length]; omega
  · simp [uuid16_length]
  · show List.take ((uuid16 s).length * 1) _ = _
    rw [Nat.mul_one]
    exact List.take_of_length_le (by simp)

set_option maxRecDepth 100000 in
set_option maxHeartbeats 800000 in
theorem spValueText_true (fv : Value) (ver : Int) (flex : Bool) (n : Int) (s : List UInt8) (sv lv uv : Value) (nb : Bool) (base B : Nat) (w : World) (hB : B ≤ base) (hb : base ≤ w.heap.size) (hs : RL B w sv s) :
    Gives Tryz.prog 200 #[.int .i64 8, fv, .bool true, .int .i64 ver, .bool flex, .agg #[.int .i64 n, sv, .bool nb, lv, uv]] w base (counted flex true (([] : List UInt8)).length 2 ++ ([] : List UInt8)) := by
  have hbel := (Below.refl base w).alloc hb (.cells #[.int .i64 n, sv, .bool nb, lv, uv] 26)
  have hw : (whole s).length ≤ 32767 := by unfold whole; rw [List.length_take]; omega
  have hc1 : (counted flex true (([] : List UInt8)).length 2).length ≤ 100 := counted_length _ _ _ _
  go_enter Tryz.func200, Tryz.ntmps200
  go_wp2_with fail
  refine (spWhole s sv B _ (hs.below (hbel.mono hB))).mono ?_
  rintro e w' ⟨v1, rfl, hv1, rfl⟩
  obtain ⟨a1, cap1, hv1e, hv1r⟩ := id hv1
  subst hv1e
  go_wp2_with fail
  refine (spCounted flex true (([] : List UInt8)).length 2 (by first | omega | simp) (by simp) base _ (Nat.le_trans hb hbel.size)).mono ?_
  rintro e w' ⟨v2, rfl, hown, hb2⟩
  have hown : Own base w' v2 (counted flex true (([] : List UInt8)).length 2) := hown
  go_wp2_with (at_builtin; refine halted ?_)
  refine wpl_append_from bt rfl _ _ rfl base _ hown (Nat.le_trans hb ((hbel.trans hb2).size)) (([] : List UInt8)) (Src.ofRL (B := base) Tryz.underlying22 (RL.nil _ _)) (by unfold lim; first | omega | (simp only [List.length_nil] at *; omega)) ?_
  intro v3 w3 hown3 hbel3
  go_wp2
  go_ret
  exact .mk hown3 ((hbel.trans hb2).trans hbel3)
set_option maxRecDepth 100000 in
set_option maxHeartbeats 800000 in
theorem spValueText_false (fv : Value) (ver : Int) (flex : Bool) (n : Int) (s : List UInt8) (sv lv uv : Value) (nb : Bool) (base B : Nat) (w : World) (hB : B ≤ base) (hb : base ≤ w.heap.size) (hs : RL B w sv s) :
    Gives Tryz.prog 200 #[.int .i64 8, fv, .bool false, .int .i64 ver, .bool flex, .agg #[.int .i64 n, sv, .bool nb, lv, uv]] w base (counted flex false (whole s).length 2 ++ whole s) := by
  have hbel := (Below.refl base w).alloc hb (.cells #[.int .i64 n, sv, .bool nb, lv, uv] 26)
  have hw : (whole s).length ≤ 32767 := by unfold whole; rw [List.length_take]; omega
  have hc1 : (counted flex false (whole s).length 2).length ≤ 100 := counted_length _ _ _ _
  go_enter Tryz.func200, Tryz.ntmps200
  go_wp2_with fail
  refine (spWhole s sv B _ (hs.below (hbel.mono hB))).mono ?_
  rintro e w' ⟨v1, rfl, hv1, rfl⟩
  obtain ⟨a1, cap1, hv1e, hv1r⟩ := id hv1
  subst hv1e
  go_wp2_with fail
  refine (spCounted flex false (whole s).length 2 (by first | omega | simp) (by simp) base _ (Nat.le_trans hb hbel.size)).mono ?_
  rintro e w' ⟨v2, rfl, hown, hb2⟩
  have hown : Own base w' v2 (counted flex false (whole s).length 2) := hown
  go_wp2_with (at_builtin; refine halted ?_)
  refine wpl_append_from bt rfl _ _ rfl base _ hown (Nat.le_trans hb ((hbel.trans hb2).size)) (whole s) (Src.ofRL (B := base) Tryz.underlying22 ((hv1.mono hB).below hb2)) (by unfold lim; first | omega | (simp only [List.length_nil] at *; omega)) ?_
  intro v3 w3 hown3 hbel3
  go_wp2
  go_ret
  exact .mk hown3 ((hbel.trans hb2).trans hbel3)
set_option maxRecDepth 100000 in
set_option maxHeartbeats 800000 in
theorem spValueBytes_true (fv : Value) (ver : Int) (flex : Bool) (n : Int) (s : List UInt8) (sv lv uv : Value) (nb : Bool) (base B : Nat) (w : World) (hB : B ≤ base) (hb : base ≤ w.heap.size) (hs : RL B w sv s) :
    Gives Tryz.prog 200 #[.int .i64 9, fv, .bool true, .int .i64 ver, .bool flex, .agg #[.int .i64 n, sv, .bool nb, lv, uv]] w base (counted flex true (([] : List UInt8)).length 4 ++ ([] : List UInt8)) := by
  have hbel := (Below.refl base w).alloc hb (.cells #[.int .i64 n, sv, .bool nb, lv, uv] 26)
  have hw : (whole s).length ≤ 32767 := by unfold whole; rw [List.length_take]; omega
  have hc1 : (counted flex true (([] : List UInt8)).length 4).length ≤ 100 := counted_length _ _ _ _
  go_enter Tryz.func200, Tryz.ntmps200
  go_wp2_with fail
  refine (spWhole s sv B _ (hs.below (hbel.mono hB))).mono ?_
  rintro e w' ⟨v1, rfl, hv1, rfl⟩
  obtain ⟨a1, cap1, hv1e, hv1r⟩ := id hv1
  subst hv1e
  go_wp2_with fail
  refine (spCounted flex true (([] : List UInt8)).length 4 (by first | omega | simp) (by simp) base _ (Nat.le_trans hb hbel.size)).mono ?_
  rintro e w' ⟨v2, rfl, hown, hb2⟩
  have hown : Own base w' v2 (counted flex true (([] : List UInt8)).length 4) := hown
  go_wp2_with (at_builtin; refine halted ?_)
  refine wpl_append_from bt rfl _ _ rfl base _ hown (Nat.le_trans hb ((hbel.trans hb2).size)) (([] : List UInt8)) (Src.ofRL (B := base) Tryz.underlying22 (RL.nil _ _)) (by unfold lim; first | omega | (simp only [List.length_nil] at *; omega)) ?_
  intro v3 w3 hown3 hbel3
  go_wp2
  go_ret
  exact .mk hown3 ((hbel.trans hb2).trans hbel3)
set_option maxRecDepth 100000 in
set_option maxHeartbeats 800000 in
theorem spValueBytes_false (fv : Value) (ver : Int) (flex : Bool) (n : Int) (s : List UInt8) (sv lv uv : Value) (nb : Bool) (base B : Nat) (w : World) (hB : B ≤ base) (hb : base ≤ w.heap.size) (hs : RL B w sv s) :
    Gives Tryz.prog 200 #[.int .i64 9, fv, .bool false, .int .i64 ver, .bool flex, .agg #[.int .i64 n, sv, .bool nb, lv, uv]] w base (counted flex false (whole s).length 4 ++ whole s) := by
  have hbel := (Below.refl base w).alloc hb (.cells #[.int .i64 n, sv, .bool nb, lv, uv] 26)
  have hw : (whole s).length ≤ 32767 := by unfold whole; rw [List.length_take]; omega
  have hc1 : (counted flex false (whole s).length 4).length ≤ 100 := counted_length _ _ _ _
  go_enter Tryz.func200, Tryz.ntmps200
  go_wp2_with fail
  refine (spWhole s sv B _ (hs.below (hbel.mono hB))).mono ?_
  rintro e w' ⟨v1, rfl, hv1, rfl⟩
  obtain ⟨a1, cap1, hv1e, hv1r⟩ := id hv1
  subst hv1e
  go_wp2_with fail
  refine (spCounted flex false (whole s).length 4 (by first | omega | simp) (by simp) base _ (Nat.le_trans hb hbel.size)).mono ?_
  rintro e w' ⟨v2, rfl, hown, hb2⟩
  have hown : Own base w' v2 (counted flex false (whole s).length 4) := hown
  go_wp2_with (at_builtin; refine halted ?_)
  refine wpl_append_from bt rfl _ _ rfl base _ hown (Nat.le_trans hb ((hbel.trans hb2).size)) (whole s) (Src.ofRL (B := base) Tryz.underlying22 ((hv1.mono hB).below hb2)) (by unfold lim; first | omega | (simp only [List.length_nil] at *; omega)) ?_
  intro v3 w3 hown3 hbel3
  go_wp2
  go_ret
  exact .mk hown3 ((hbel.trans hb2).trans hbel3)
end Go.Proofs.YtfchajjllhndlabGreatDoor

/- What the reference writes of a field, by what it writes of its values. -/
namespace Go.Proofs.YtfchajjllhndlabGreatDoor
open Go Go.RowKit

/-- What is asked of the part behind fields: it writes what pPart says. -/
def PartC (fs : PFs) (ver : Int) (flex : Bool) (t : Tree) : Prop :=
  ∀ (B base : Nat) (w : World) (fv : Value) (c : List Value), B ≤ base → base ≤ w.heap.size → RepF B w fs fv → RepT B w c t → (pPart ver flex fs t).length ≤ lim →
    Gives Tryz.prog 58 #[fv, .int .i64 ver, .bool flex, .agg c.toArray] w base (pPart ver flex fs t)
/-- The same of a value of a kind. -/
def ValC (k : Int) (sub : PFs) (null : Bool) (ver : Int) (flex : Bool) (t : Tree) : Prop :=
  ∀ (B base : Nat) (w : World) (fv : Value) (c : List Value), B ≤ base → base ≤ w.heap.size → RepF B w sub fv → RepT B w c t → (pVal flex k (pPart ver flex sub) null t).length ≤ lim →
    Gives Tryz.prog 200 #[.int .i64 k, fv, .bool null, .int .i64 ver, .bool flex, .agg c.toArray] w base (pVal flex k (pPart ver flex sub) null t)

set_option maxRecDepth 100000 in
set_option maxHeartbeats 800000 in
theorem spValueStruct (sub : PFs) (null : Bool) (ver : Int) (flex : Bool) (t : Tree) (hp : PartC sub ver flex t) : ValC 10 sub null ver flex t := by
  intro B base w fv c hB hb hf ht hl
  obtain ⟨sv, lv, uv, rfl, -, ⟨sa, sc, rfl, -⟩, ⟨la, lc, lf, rfl, -⟩, ⟨ua, uc, rfl, -⟩⟩ := ht.parts
  have hp1 := Lib.hid hp
  have hbel := (Below.refl base w).alloc hb (.cells #[.int .i64 t.n, .slice sa t.s.length sc, .bool t.null, .slice la t.l.length lc, .slice ua t.u.length uc] 26)
  have H := Lib.hid (And.intro hf ht)
  clear hp hf ht
  show Gives _ _ _ _ _ (pPart ver flex sub t)
  change (pPart ver flex sub t).length ≤ lim at hl
  go_enter Tryz.func200, Tryz.ntmps200
  go_wp2_with fail
  refine (hp1.out B base _ _ _ hB (Nat.le_trans hb hbel.size) (H.out.1.below (hbel.mono hB)) (H.out.2.keep (hbel.mono hB)) hl).mono ?_
  rintro e w' ⟨v', rfl, hown, hb2⟩
  go_wp2
  go_ret
  exact .mk hown (hbel.trans hb2)

theorem spValue (k : Int) (sub : PFs) (null : Bool) (ver : Int) (flex : Bool) (t : Tree) (hp : k = 10 → PartC sub ver flex t) : ValC k sub null ver flex t := by
  by_cases h10 : k = 10
  · subst h10
    exact spValueStruct sub null ver flex t (hp rfl)
  intro B base w fv c hB hb hf ht hl
  obtain ⟨sv, lv, uv, rfl, -, hs, -⟩ := ht.parts
  by_cases h0 : k = 0
  · subst h0
    exact spValueBool fv null ver flex t.n sv lv uv t.null base w hb
  by_cases h7 : k = 7
  · subst h7
    exact spValueUuid fv null ver flex t.n t.s sv lv uv t.null base B w hB hb hs
  by_cases h8 : k = 8
  · subst h8
    cases null
    · exact spValueText_false fv ver flex t.n t.s sv lv uv t.null base B w hB hb hs
    · exact spValueText_true fv ver flex t.n t.s sv lv uv t.null base B w hB hb hs
  by_cases h9 : k = 9
  · subst h9
    cases null
    · exact spValueBytes_false fv ver flex t.n t.s sv lv uv t.null base B w hB hb hs
    · exact spValueBytes_true fv ver flex t.n t.s sv lv uv t.null base B w hB hb hs
  have e : pVal flex k (pPart ver flex sub) null t = fixed t.n (pWidth k) := by simp [pVal, h0, h7, h8, h9, h10]
  rw [e]
  exact spValueNum k h0 h7 h8 h9 h10 fv null ver flex t.n sv lv uv t.null base w hb

theorem spNullT (k fr to nu tg df ok : Int) (sv : Value) (ver : Int) (t : Tree) (c : List Value) (B base : Nat) (w : World) (hb : base ≤ w.heap.size) (ht : RepT B w c t) :
    Says Tryz.prog 197 #[.agg #[.int .i64 k, .int .i64 fr, .int .i64 to, .int .i64 nu, .int .i64 tg, .int .i64 df, .int .i64 ok, sv], .int .i64 ver, .agg c.toArray] w base (.bool (pNull nu ver t)) := by
  obtain ⟨s, l, u, rfl, -⟩ := ht.parts
  exact spNull k fr to nu tg df ok sv ver t.n s t.null l u base w hb

/-- The k-th of the trees behind a slice. -/
theorem RepL.nth {B : Nat} {w : World} {l : List Tree} {a : Option Addr} {n cap : Nat} (h : RepL B w l (.slice a n cap)) {k : Nat} (hk : k < l.length) :
    ∃ p q sa sc la lc ua uc, a = some ⟨p, q, none⟩ ∧ p < B ∧
      RepT B w [.int .i64 (l[k]).n, .slice sa (l[k]).s.length sc, .bool (l[k]).null, .slice la (l[k]).l.length lc, .slice ua (l[k]).u.length uc] (l[k]) ∧
      w.cell? ⟨p, q + k * 5, none⟩ = some (.int .i64 (l[k]).n) ∧ w.cell? ⟨p, q + k * 5 + 1, none⟩ = some (.slice sa (l[k]).s.length sc) ∧ w.cell? ⟨p, q + k * 5 + 2, none⟩ = some (.bool (l[k]).null) ∧
      w.cell? ⟨p, q + k * 5 + 3, none⟩ = some (.slice la (l[k]).l.length lc) ∧ w.cell? ⟨p, q + k * 5 + 4, none⟩ = some (.slice ua (l[k]).u.length uc) := by
  obtain ⟨a', cap', f, hv, h1, h2, h3, h4⟩ := h
  cases hv
  obtain ⟨p, q, rfl, hp, h5⟩ := h3 (by intro e; subst e; simp at hk)
  have hr := h4 k _ (List.getElem?_eq_getElem hk)
  obtain ⟨sv, lv, uv, hc, -, ⟨sa, sc, rfl, -⟩, ⟨la, lc, lf, rfl, -⟩, ⟨ua, uc, rfl, -⟩⟩ := hr.parts
  have h6 := (h5 k hk).2
  rw [hc] at h6 hr
  rw [Nat.mul_comm 5 k] at h6
  exact ⟨p, q, sa, sc, la, lc, ua, uc, rfl, hp, hr, h6 0 _ rfl, h6 1 _ rfl, h6 2 _ rfl, h6 3 _ rfl, h6 4 _ rfl⟩
theorem RepL.nil (B : Nat) (w : World) : RepL B w [] (.slice none 0 0) := ⟨none, 0, fun _ => [], rfl, Nat.le_refl _, by omega, fun h => absurd rfl h, fun i t h => by simp at h⟩
theorem RepL.len {B : Nat} {w : World} {l : List Tree} {a : Option Addr} {n cap : Nat} (h : RepL B w l (.slice a n cap)) : n = l.length := by
  obtain ⟨a', cap', f, hv, -⟩ := h
  cases hv
  rfl
end Go.Proofs.YtfchajjllhndlabGreatDoor

/- What the reference writes of a field, by what it writes of its values: the walks. -/
namespace Go.Proofs.YtfchajjllhndlabGreatDoor
open Go Go.RowKit

/-- The function writes of this field what pField says. -/
def FieldC (k fr to nu tg df ok : Int) (sub : PFs) (ver : Int) (flex : Bool) (t : Tree) : Prop :=
  ∀ (B base : Nat) (w : World) (fv : Value) (c : List Value), B ≤ base → base ≤ w.heap.size → RepF B w sub fv → RepT B w c t → (pField ver flex k nu ok (pPart ver flex sub) t).length ≤ lim →
    Gives Tryz.prog 138 #[.agg #[.int .i64 k, .int .i64 fr, .int .i64 to, .int .i64 nu, .int .i64 tg, .int .i64 df, .int .i64 ok, fv], .int .i64 ver, .bool flex, .agg c.toArray] w base (pField ver flex k nu ok (pPart ver flex sub) t)

theorem boxF {w : World} {b T : Nat} {c0 c1 c2 c3 c4 c5 c6 c7 : Value} (h : Blk w b [c0, c1, c2, c3, c4, c5, c6, c7] T) :
    w.cell? ⟨b, 0, none⟩ = some c0 ∧ w.cell? ⟨b, 1, none⟩ = some c1 ∧ w.cell? ⟨b, 2, none⟩ = some c2 ∧ w.cell? ⟨b, 3, none⟩ = some c3 ∧
    w.cell? ⟨b, 4, none⟩ = some c4 ∧ w.cell? ⟨b, 5, none⟩ = some c5 ∧ w.cell? ⟨b, 6, none⟩ = some c6 ∧ w.cell? ⟨b, 7, none⟩ = some c7 :=
  ⟨h.cell_some rfl, h.cell_some rfl, h.cell_some rfl, h.cell_some rfl, h.cell_some rfl, h.cell_some rfl, h.cell_some rfl, h.cell_some rfl⟩
theorem boxT {w : World} {b T : Nat} {c0 c1 c2 c3 c4 : Value} (h : Blk w b [c0, c1, c2, c3, c4] T) :
    w.cell? ⟨b, 0, none⟩ = some c0 ∧ w.cell? ⟨b, 1, none⟩ = some c1 ∧ w.cell? ⟨b, 2, none⟩ = some c2 ∧ w.cell? ⟨b, 3, none⟩ = some c3 ∧ w.cell? ⟨b, 4, none⟩ = some c4 :=
  ⟨h.cell_some rfl, h.cell_some rfl, h.cell_some rfl, h.cell_some rfl, h.cell_some rfl⟩

set_option maxRecDepth 100000 in
set_option maxHeartbeats 1600000 in
theorem spFieldVal (k fr to nu tg df ok : Int) (sub : PFs) (ver : Int) (flex : Bool) (t : Tree) (hk : k ≠ 11) (hn : ¬(k = 10 ∧ 0 ≤ nu)) (hv : ValC k sub (pNull nu ver t) ver flex t) : FieldC k fr to nu tg df ok sub ver flex t := by
  intro B base w fv c hB hb hf ht hl
  have e : pField ver flex k nu ok (pPart ver flex sub) t = pVal flex k (pPart ver flex sub) (pNull nu ver t) t := by simp only [pField, hk, hn, if_false]
  rw [e] at hl ⊢
  clear e
  have NL := fun w' (hw : B ≤ w'.heap.size) (hr : RepT B w' c t) => spNullT k fr to nu tg df ok fv ver t c B w'.heap.size w' (Nat.le_refl _) hr
  obtain ⟨sv, lv, uv, rfl, -, ⟨sa, sc, rfl, -⟩, ⟨la, lc, lf, rfl, -⟩, ⟨ua, uc, rfl, -⟩⟩ := ht.parts
  obtain ⟨fa, fcap, rfl, -⟩ := id hf
  have V := Lib.hid hv
  have N := Lib.hid NL
  clear hv NL
  have hb1 := fun o => (Below.refl base w).alloc hb o
  have hb2 := fun o o' => (hb1 o).alloc (Nat.le_trans hb (by simp)) o'
  have H := Lib.hid (And.intro hf ht)
  clear hf ht
  have e1 : ∀ o o', ((w.alloc o).alloc o').heap.size = w.heap.size + 2 := by intro o o'; simp
  by_cases h10 : k = 10
  · have hnu : ¬ 0 ≤ nu := fun h => hn ⟨h10, h⟩
    subst h10
    clear hn
    go_enter Tryz.func138, Tryz.ntmps138
    go_wp2_with fail
    refine (N.out _ (by rw [e1]; omega) (H.out.2.keep ((hb2 _ _).mono hB))).mono ?_
    rintro e w3 ⟨rfl, hb3⟩
    obtain ⟨x0, x1, x2, x3, x4, x5, x6, x7⟩ := boxF (((Blk.alloc_new w [.int .i64 10, .int .i64 fr, .int .i64 to, .int .i64 nu, .int .i64 tg, .int .i64 df, .int .i64 ok, .slice fa sub.len fcap] 48).alloc
      (.cells #[.int .i64 t.n, .slice sa t.s.length sc, .bool t.null, .slice la t.l.length lc, .slice ua t.u.length uc] 26)).below hb3 (by rw [e1]; omega))
    obtain ⟨y0, y1, y2, y3, y4⟩ := boxT ((Blk.alloc_new2 w (.cells #[.int .i64 10, .int .i64 fr, .int .i64 to, .int .i64 nu, .int .i64 tg, .int .i64 df, .int .i64 ok, .slice fa sub.len fcap] 48)
      [.int .i64 t.n, .slice sa t.s.length sc, .bool t.null, .slice la t.l.length lc, .slice ua t.u.length uc] 26).below hb3 (by rw [e1]; omega))
    have hb4 := (hb2 _ _).trans (hb3.mono (by rw [e1]; omega))
    go_wp2_with fail
    refine (V.out B base w3 _ _ hB (Nat.le_trans hb hb4.size) (H.out.1.below (hb4.mono hB)) (H.out.2.keep (hb4.mono hB)) hl).mono ?_
    rintro e w4 ⟨v', rfl, hown, hb5⟩
    go_wp2
    go_ret
    exact .mk hown (hb4.trans hb5)
  · clear hn
    go_enter Tryz.func138, Tryz.ntmps138
    go_wp2_with fail
    refine (N.out _ (by rw [e1]; omega) (H.out.2.keep ((hb2 _ _).mono hB))).mono ?_
    rintro e w3 ⟨rfl, hb3⟩
    obtain ⟨x0, x1, x2, x3, x4, x5, x6, x7⟩ := boxF (((Blk.alloc_new w [.int .i64 k, .int .i64 fr, .int .i64 to, .int .i64 nu, .int .i64 tg, .int .i64 df, .int .i64 ok, .slice fa sub.len fcap] 48).alloc
      (.cells #[.int .i64 t.n, .slice sa t.s.length sc, .bool t.null, .slice la t.l.length lc, .slice ua t.u.length uc] 26)).below hb3 (by rw [e1]; omega))
    obtain ⟨y0, y1, y2, y3, y4⟩ := boxT ((Blk.alloc_new2 w (.cells #[.int .i64 k, .int .i64 fr, .int .i64 to, .int .i64 nu, .int .i64 tg, .int .i64 df, .int .i64 ok, .slice fa sub.len fcap] 48)
      [.int .i64 t.n, .slice sa t.s.length sc, .bool t.null, .slice la t.l.length lc, .slice ua t.u.length uc] 26).below hb3 (by rw [e1]; omega))
    have hb4 := (hb2 _ _).trans (hb3.mono (by rw [e1]; omega))
    go_wp2_with fail
    refine (V.out B base w3 _ _ hB (Nat.le_trans hb hb4.size) (H.out.1.below (hb4.mono hB)) (H.out.2.keep (hb4.mono hB)) hl).mono ?_
    rintro e w4 ⟨v', rfl, hown, hb5⟩
    go_wp2
    go_ret
    exact .mk hown (hb4.trans hb5)
end Go.Proofs.YtfchajjllhndlabGreatDoor

/- What the reference writes of a list: its count, its things. -/
namespace Go.Proofs.YtfchajjllhndlabGreatDoor
open Go Go.RowKit

theorem step_append_from {P : Program} {w : World} {ops : Array Oper} {o : Oper} {a : Act} {K : Act → World → Prop} {Q : Exit → Act → World → Prop} {E : Prop} {t tx : TypeId} (T : BytesT P t 5) (hgd : o.guard = none) (s x : Operand)
    (ho : o.op = .call { callee := .builtin .append, args := #[s, x], argTypes := #[t, tx] }) (base : Nat) (bs : List UInt8) (hown : Own base w (a.eval s) bs) (hb : base ≤ w.heap.size)
    (bs' : List UInt8) (hsrc : Src P 1 tx (a.eval x) bs'.length (bs'.map byteV) w) (hl : bs.length + bs'.length ≤ lim)
    (h : ∀ v' w', Own base w' v' (bs ++ bs') → Below base w w' → K (a.put o.dst v') w') : if Region.wanted o (yielded ops a.tmps) = true then Oper.wp P o a w K Q else E := by
  have hw : Region.wanted o (yielded ops a.tmps) = true := by simp [Region.wanted, hgd]
  rw [if_pos hw]
  obtain ⟨i, hi, hz, hs, hby⟩ := T.info
  refine wp_append_src s x t tx ho base 5 i (.int .u8 0) 1 1 T.under hi hz hs hby rfl (a.eval s) bs.length (bs.map byteV) rfl hown _ bs'.length (bs'.map byteV) rfl hsrc (lim_max hl) (lim_room hl) hb ?_
  intro v' w' hown' hg _
  refine h v' w' ?_ ?_
  · unfold Own
    simpa using hown'
  · exact (Below.refl _ _).grown hg hb (fun k hk => by
      have := hown.lt k hk
      omega)
theorem Own.stay {base n : Nat} {w w' : World} {v : Value} {bs : List UInt8} (h : Own base w v bs) (hb : Below n w w') (hn : w.heap.size ≤ n) : Own base w' v bs := by
  refine ⟨h.1, ?_⟩
  rcases h.2 with hz | ⟨g, cap, cur, hv, hbg, hg, rest⟩
  · exact .inl hz
  · have hlt : g < w.heap.size := (Array.getElem?_eq_some_iff.1 hg).1
    exact .inr ⟨g, cap, cur, hv, hbg, (hb.block g (by omega)).trans hg, rest⟩
theorem Own.rl {base : Nat} {w : World} {v : Value} {bs : List UInt8} (h : Own base w v bs) : RL w.heap.size w v bs := (h.rb [] (by simp)).rl
theorem keep7 {n p q b : Nat} {w w' : World} {v0 v1 v2 v3 v4 x6 x7 : Value} (hb : Below n w w') (hp : p < n) (hbb : b < n)
    (h : w.cell? ⟨p, q, none⟩ = some v0 ∧ w.cell? ⟨p, q + 1, none⟩ = some v1 ∧ w.cell? ⟨p, q + 2, none⟩ = some v2 ∧ w.cell? ⟨p, q + 3, none⟩ = some v3 ∧ w.cell? ⟨p, q + 4, none⟩ = some v4 ∧ w.cell? ⟨b, 6, none⟩ = some x6 ∧ w.cell? ⟨b, 7, none⟩ = some x7) :
    w'.cell? ⟨p, q, none⟩ = some v0 ∧ w'.cell? ⟨p, q + 1, none⟩ = some v1 ∧ w'.cell? ⟨p, q + 2, none⟩ = some v2 ∧ w'.cell? ⟨p, q + 3, none⟩ = some v3 ∧ w'.cell? ⟨p, q + 4, none⟩ = some v4 ∧ w'.cell? ⟨b, 6, none⟩ = some x6 ∧ w'.cell? ⟨b, 7, none⟩ = some x7 := by
  have hP : ∀ i, w'.cell? ⟨p, i, none⟩ = w.cell? ⟨p, i, none⟩ := fun i => hb.cell (p := ⟨p, i, none⟩) hp
  have hQ : ∀ i, w'.cell? ⟨b, i, none⟩ = w.cell? ⟨b, i, none⟩ := fun i => hb.cell (p := ⟨b, i, none⟩) hbb
  simp only [hP, hQ]
  exact h

/-- The first k things of a list, each as the kind is written. -/
def things (ok : Int) (sub : PFs) (ver : Int) (flex : Bool) (l : List Tree) (k : Nat) : List UInt8 := (l.take k).flatMap (pVal flex ok (pPart ver flex sub) false)
theorem things_zero (ok : Int) (sub : PFs) (ver : Int) (flex : Bool) (l : List Tree) : things ok sub ver flex l 0 = [] := by simp [things]
theorem things_succ (ok : Int) (sub : PFs) (ver : Int) (flex : Bool) (l : List Tree) (k : Nat) (h : k < l.length) : things ok sub ver flex l (k + 1) = things ok sub ver flex l k ++ pVal flex ok (pPart ver flex sub) false l[k] := by
  unfold things
  rw [List.take_add_one, List.getElem?_eq_getElem h, List.flatMap_append]
  simp only [Option.toList_some, List.flatMap_cons, List.flatMap_nil, List.append_nil]
theorem things_all (ok : Int) (sub : PFs) (ver : Int) (flex : Bool) (l : List Tree) : things ok sub ver flex l l.length = l.flatMap (pVal flex ok (pPart ver flex sub) false) := by simp [things]
theorem things_le (ok : Int) (sub : PFs) (ver : Int) (flex : Bool) (l : List Tree) (k : Nat) (h : k < l.length) :
    (things ok sub ver flex l k).length + (pVal flex ok (pPart ver flex sub) false l[k]).length ≤ (l.flatMap (pVal flex ok (pPart ver flex sub) false)).length := by
  rw [← List.length_append, ← things_succ _ _ _ _ _ _ h]
  unfold things
  conv => rhs; rw [← List.take_append_drop (k + 1) l]
  rw [List.flatMap_append, List.length_append]
  omega

set_option maxRecDepth 100000 in
set_option maxHeartbeats 1600000 in
theorem spFieldList_null (fr to nu tg df ok : Int) (sub : PFs) (ver : Int) (flex : Bool) (t : Tree) (hn : pNull nu ver t = true) : FieldC 11 fr to nu tg df ok sub ver flex t := by
  intro B base w fv c hB hb hf ht hl
  have e : pField ver flex 11 nu ok (pPart ver flex sub) t = counted flex true 0 4 := by simp [pField, hn, pThings]
  rw [e]
  clear e hl
  have NL := fun w' (hw : B ≤ w'.heap.size) (hr : RepT B w' c t) => spNullT 11 fr to nu tg df ok fv ver t c B w'.heap.size w' (Nat.le_refl _) hr
  rw [hn] at NL
  obtain ⟨sv, lv, uv, rfl, -, ⟨sa, sc, rfl, -⟩, ⟨la, lc, lf, rfl, -⟩, ⟨ua, uc, rfl, -⟩⟩ := ht.parts
  obtain ⟨fa, fcap, rfl, -⟩ := id hf
  have N := Lib.hid NL
  clear NL hn
  have hb1 := fun o => (Below.refl base w).alloc hb o
  have hb2 := fun o o' => (hb1 o).alloc (Nat.le_trans hb (by simp)) o'
  have H := Lib.hid (And.intro hf ht)
  clear hf ht
  have e1 : ∀ o o', ((w.alloc o).alloc o').heap.size = w.heap.size + 2 := by intro o o'; simp
  go_enter Tryz.func138, Tryz.ntmps138
  go_wp2_with fail
  refine (N.out _ (by rw [e1]; omega) (H.out.2.keep ((hb2 _ _).mono hB))).mono ?_
  rintro e w3 ⟨rfl, hb3⟩
  obtain ⟨x0, x1, x2, x3, x4, x5, x6, x7⟩ := boxF (((Blk.alloc_new w [.int .i64 11, .int .i64 fr, .int .i64 to, .int .i64 nu, .int .i64 tg, .int .i64 df, .int .i64 ok, .slice fa sub.len fcap] 48).alloc
    (.cells #[.int .i64 t.n, .slice sa t.s.length sc, .bool t.null, .slice la t.l.length lc, .slice ua t.u.length uc] 26)).below hb3 (by rw [e1]; omega))
  obtain ⟨y0, y1, y2, y3, y4⟩ := boxT ((Blk.alloc_new2 w (.cells #[.int .i64 11, .int .i64 fr, .int .i64 to, .int .i64 nu, .int .i64 tg, .int .i64 df, .int .i64 ok, .slice fa sub.len fcap] 48)
    [.int .i64 t.n, .slice sa t.s.length sc, .bool t.null, .slice la t.l.length lc, .slice ua t.u.length uc] 26).below hb3 (by rw [e1]; omega))
  have hb4 := (hb2 _ _).trans (hb3.mono (by rw [e1]; omega))
  have R4 := H.out.2.keep (hb4.mono hB)
  obtain ⟨s4, l4, u4, hcc, -, -, RL4, -⟩ := R4.parts
  cases hcc
  clear R4
  go_wp2_with fail
  refine (spThings t.l _ B _ RL4).mono ?_
  rintro e w4 ⟨v', rfl, -, rfl⟩
  clear RL4
  go_wp2_with fail
  refine (spCounted flex true 0 4 (by omega) (by simp) base _ (Nat.le_trans hb hb4.size)).mono ?_
  rintro e w4 ⟨v2, rfl, hown, hb5⟩
  have hown : Own base w4 v2 (counted flex true 0 4) := hown
  go_wp2_with fail
  refine wp_loop_rounds 1 ?_
  rw [rounds_succ]
  go_wp2
  go_ret
  exact .mk hown (hb4.trans hb5)

set_option maxRecDepth 100000 in
set_option maxHeartbeats 3200000 in
theorem spFieldList_some (fr to nu tg df ok : Int) (sub : PFs) (ver : Int) (flex : Bool) (t : Tree) (hn : pNull nu ver t = false) (hv : ∀ t', t' ∈ t.l → ValC ok sub false ver flex t') : FieldC 11 fr to nu tg df ok sub ver flex t := by
  intro B base w fv c hB hb hf ht hl
  have e : pField ver flex 11 nu ok (pPart ver flex sub) t = counted flex false (t.l.take 32767).length 4 ++ (t.l.take 32767).flatMap (pVal flex ok (pPart ver flex sub) false) := by simp [pField, hn, pThings]
  rw [e] at hl ⊢
  clear e
  have NL := fun w' (hw : B ≤ w'.heap.size) (hr : RepT B w' c t) => spNullT 11 fr to nu tg df ok fv ver t c B w'.heap.size w' (Nat.le_refl _) hr
  rw [hn] at NL
  obtain ⟨sv, lv, uv, rfl, -, ⟨sa, sc, rfl, -⟩, ⟨la, lc, lf, rfl, -⟩, ⟨ua, uc, rfl, -⟩⟩ := ht.parts
  obtain ⟨fa, fcap, rfl, -⟩ := id hf
  have N := Lib.hid NL
  have V := Lib.hid hv
  clear NL hn hv
  have hb1 := fun o => (Below.refl base w).alloc hb o
  have hb2 := fun o o' => (hb1 o).alloc (Nat.le_trans hb (by simp)) o'
  have H := Lib.hid (And.intro hf ht)
  clear hf ht
  have e1 : ∀ o o', ((w.alloc o).alloc o').heap.size = w.heap.size + 2 := by intro o o'; simp
  have hll : (t.l.take 32767).length ≤ 32767 := by rw [List.length_take]; omega
  have hmem : ∀ t', t' ∈ t.l.take 32767 → t' ∈ t.l := fun t' h => List.mem_of_mem_take h
  obtain ⟨L, hLd⟩ : ∃ L, t.l.take 32767 = L := ⟨_, rfl⟩
  rw [hLd] at hl hll hmem ⊢
  go_enter Tryz.func138, Tryz.ntmps138
  go_wp2_with fail
  refine (N.out _ (by rw [e1]; omega) (H.out.2.keep ((hb2 _ _).mono hB))).mono ?_
  rintro e w3 ⟨rfl, hb3⟩
  have X := ((Blk.alloc_new w [.int .i64 11, .int .i64 fr, .int .i64 to, .int .i64 nu, .int .i64 tg, .int .i64 df, .int .i64 ok, .slice fa sub.len fcap] 48).alloc
    (.cells #[.int .i64 t.n, .slice sa t.s.length sc, .bool t.null, .slice la t.l.length lc, .slice ua t.u.length uc] 26)).below hb3 (by rw [e1]; omega)
  obtain ⟨x0, x1, x2, x3, x4, x5, x6, x7⟩ := boxF X
  obtain ⟨y0, y1, y2, y3, y4⟩ := boxT ((Blk.alloc_new2 w (.cells #[.int .i64 11, .int .i64 fr, .int .i64 to, .int .i64 nu, .int .i64 tg, .int .i64 df, .int .i64 ok, .slice fa sub.len fcap] 48)
    [.int .i64 t.n, .slice sa t.s.length sc, .bool t.null, .slice la t.l.length lc, .slice ua t.u.length uc] 26).below hb3 (by rw [e1]; omega))
  have hs3 : w.heap.size + 2 ≤ w3.heap.size := by have := hb3.size; rw [e1] at this; exact this
  have hb4 := (hb2 _ _).trans (hb3.mono (by rw [e1]; omega))
  have R4 := H.out.2.keep (hb4.mono hB)
  have F4 := H.out.1.below (hb4.mono hB)
  obtain ⟨s4, l4, u4, hcc, -, -, RL4, -⟩ := R4.parts
  cases hcc
  clear R4
  have XH := Lib.hid (And.intro X F4)
  clear X F4 H
  go_wp2_with fail
  refine (spThings t.l _ B _ RL4).mono ?_
  rintro e w4 ⟨v', rfl, RL5, rfl⟩
  clear RL4
  obtain ⟨a5, cap5, f5, rfl, -⟩ := id RL5
  rw [hLd] at RL5
  rw [hLd]
  clear hLd
  have hb7 : Below (w.heap.size + 2) w3 w3 := Below.refl _ _
  go_wp2_with fail
  refine (spCounted flex false L.length 4 (by omega) (by simp) (w.heap.size + 2) _ hs3).mono ?_
  rintro e w4 ⟨v2, rfl, hown, hb5⟩
  have hown : Own (w.heap.size + 2) w4 v2 (counted flex false L.length 4) := hown
  have RL6 := Lib.hid RL5
  clear RL5 x0 x1 x2 x3 x4 x5 x6 x7 y0 y1 y2 y3 y4
  go_wp2_with fail
  go_loopw [11, 31] (fun v i wr => ∃ k : Nat, k ≤ L.length ∧ i = .int .i64 k ∧ Own (w.heap.size + 2) wr v (counted flex false L.length 4 ++ things ok sub ver flex L k) ∧ Below (w.heap.size + 2) w3 wr)
    (fun _ i _ => L.length - (intOf i).toNat)
  case atStart => exact ⟨0, Nat.zero_le _, rfl, by rw [things_zero, List.append_nil]; exact hown, hb5⟩
  case round =>
    obtain ⟨k, hk, rfl, hownk, hbk⟩ := hrel
    by_cases hkl : k < L.length
    · obtain ⟨p, q, sa', sc', la', lc', ua', uc', ha, hp, hr, c0, c1, c2, c3, c4⟩ := (RL6.out.keep (hbk.mono (by omega))).nth hkl
      subst ha
      obtain ⟨-, -, -, -, -, -, x6, x7⟩ := boxF (XH.out.1.below hbk (by omega))
      have R := Lib.hid (And.intro hr (XH.out.2.below (hbk.mono (by omega))))
      have hle := things_le ok sub ver flex L k hkl
      rw [List.length_append] at hl
      have hsz := hbk.size
      have D : Below (w.heap.size + 2) wr wr.drew := (Below.refl _ _).drew
      have c := keep7 (D) (by omega) (by omega) ⟨c0, c1, c2, c3, c4, x6, x7⟩
      have hpb : p < w.heap.size + 2 := by omega
      have hbb : w.heap.size < w.heap.size + 2 := by omega
      clear c0 c1 c2 c3 c4 x6 x7 hr
      have hownd := Lib.hid hownk.drew
      have hdsz : wr.drew.heap.size = wr.heap.size := rfl
      have hw2 : w.heap.size + 2 ≤ wr.drew.heap.size := by omega
      go_wp2_with fail
      go_region_held3 (fun w' => w'.cell? ⟨p, q + k * 5, none⟩ = some (.int .i64 (L[k]).n) ∧ w'.cell? ⟨p, q + k * 5 + 1, none⟩ = some (.slice sa' (L[k]).s.length sc') ∧ w'.cell? ⟨p, q + k * 5 + 2, none⟩ = some (.bool (L[k]).null) ∧
        w'.cell? ⟨p, q + k * 5 + 3, none⟩ = some (.slice la' (L[k]).l.length lc') ∧ w'.cell? ⟨p, q + k * 5 + 4, none⟩ = some (.slice ua' (L[k]).u.length uc') ∧ w'.cell? ⟨w.heap.size, 6, none⟩ = some (.int .i64 ok) ∧ w'.cell? ⟨w.heap.size, 7, none⟩ = some (.slice fa sub.len fcap))
        (first | exact c | exact keep7 (by assumption) hpb hbb (by assumption) | exact keep7 (Below.mono (by assumption) hw2) hpb hbb (by assumption))
        (first
          | (go_at_call 200; refine (V.out _ (hmem _ (List.getElem_mem hkl)) B wr.drew.heap.size wr.drew _ _ (by omega) (Nat.le_refl _) (R.out.2.below (D.mono (by omega))) (R.out.1.keep (D.mono (by omega))) (by omega)).mono ?_; rintro e w6 ⟨v6, rfl, hown6, hb6⟩)
          | (refine step_append_from bt rfl (.tmp 34) (.tmp 45) rfl (w.heap.size + 2) _ (hownd.out.stay hb6 (Nat.le_refl _)) (by have := hb6.size; omega) _ (Src.ofRL (B := w6.heap.size) Tryz.underlying22 (hown6.rl)) (by simp only [List.length_append]; omega) ?_; intro v7 w7 hown7 hb7))
      have hfin : Own (w.heap.size + 2) w7 v7 (counted flex false L.length 4 ++ things ok sub ver flex L (k + 1)) := by
        rw [things_succ _ _ _ _ _ _ hkl, ← List.append_assoc]
        exact hown7
      have hbfin : Below (w.heap.size + 2) w3 w7 := (hbk.trans D).trans ((hb6.mono hw2).trans hb7)
      go_wp2
      go_roundw
      case rel => exact ⟨k + 1, by omega, by go_num, hfin, hbfin⟩
      case measure => simp [intOf]; omega
    · have : k = L.length := by omega
      subst this
      rw [things_all] at hownk
      go_wp2
      go_ret
      exact .mk (hownk.mono (by omega)) (hb4.trans (hbk.mono (by omega)))
end Go.Proofs.YtfchajjllhndlabGreatDoor

/- The reference's known and unknown tags, where there are none. -/
namespace Go.Proofs.YtfchajjllhndlabGreatDoor
open Go Go.RowKit

/-- What the loops over fields know of those that are left: gs, from the k-th on. -/
structure Left (B : Nat) (w : World) (a : Option Addr) (n : Nat) (k : Nat) (gs : PFs) : Prop where
  len : k + gs.len = n
  noTag : gs.noTag
  cells : ∀ p q, a = some ⟨p, q, none⟩ → RepFC B w gs p (q + k * 8)
theorem Left.below {B : Nat} {w w' : World} {a : Option Addr} {n k : Nat} {gs : PFs} (h : Left B w a n k gs) (hk : Below B w w') (hp : ∀ p q, a = some ⟨p, q, none⟩ → p < B) : Left B w' a n k gs :=
  ⟨h.len, h.noTag, fun p q ha => (h.cells p q ha).below hk (hp p q ha)⟩
theorem Left.next {B : Nat} {w : World} {a : Option Addr} {n k : Nat} {kk fr to nu tg df ok : Int} {sub rest : PFs} (h : Left B w a n k (.cons kk fr to nu tg df ok sub rest)) : Left B w a n (k + 1) rest :=
  ⟨by have := h.len; simp only [PFs.len] at this; omega, h.noTag.2.2, fun p q ha => by
    have := (h.cells p q ha).2.2
    rwa [show q + (k + 1) * 8 = q + k * 8 + 8 by omega]⟩
theorem Left.start {B : Nat} {w : World} {fs : PFs} {a : Option Addr} {n cap : Nat} (h : RepF B w fs (.slice a n cap)) (ht : fs.noTag) : n = fs.len ∧ fs.len ≤ 9223372036854775807 ∧ (fs.len ≠ 0 → ∃ p q, a = some ⟨p, q, none⟩ ∧ p < B) ∧ (fs.len ≠ 0 → Left B w a fs.len 0 fs) := by
  obtain ⟨a', cap', hv, hle, hr⟩ := h
  cases hv
  refine ⟨rfl, hle, fun hn => ?_, fun hn => ⟨by omega, ht, fun p q ha => ?_⟩⟩
  · obtain ⟨p, q, ha, hp, -⟩ := hr hn
    exact ⟨p, q, ha, hp⟩
  · obtain ⟨p', q', ha', -, hr⟩ := hr hn
    rw [ha] at ha'
    cases ha'
    rw [Nat.zero_mul, Nat.add_zero]
    exact hr

set_option maxRecDepth 100000 in
set_option maxHeartbeats 1600000 in
theorem spKnown0 (fs : PFs) (ht : fs.noTag) (fv : Value) (B base : Nat) (w : World) (hB : B ≤ base) (hb : base ≤ w.heap.size) (hf : RepF B w fs fv) :
    Says Tryz.prog 140 #[fv] w base (.int .u32 0) := by
  obtain ⟨a, cap, rfl, -⟩ := id hf
  obtain ⟨-, hmax, ha, hL⟩ := Left.start hf ht
  clear hf
  by_cases hn : fs.len = 0
  · rw [hn]
    clear ha hL
    go_enter Tryz.func140, Tryz.ntmps140
    go_wp2_with fail
    refine wp_loop_rounds 1 ?_
    rw [rounds_succ]
    go_wp2
    go_ret
    exact ⟨rfl, Below.refl _ _⟩
  · obtain ⟨p, q, rfl, hp⟩ := ha hn
    have L0 := hL hn
    clear ha hL
    obtain ⟨n, hnn⟩ : ∃ n, fs.len = n := ⟨_, rfl⟩
    rw [hnn] at L0 hmax ⊢
    go_enter Tryz.func140, Tryz.ntmps140
    go_wp2_with fail
    go_loopw [3, 8] (fun v i wr => ∃ k gs, i = .int .i64 (k : Nat) ∧ v = .int .u32 0 ∧ Left B w (some ⟨p, q, none⟩) n k gs ∧ Below base w wr)
      (fun _ i _ => n - (intOf i).toNat)
    case atStart => exact ⟨0, fs, rfl, rfl, L0, Below.refl _ _⟩
    case round =>
      obtain ⟨k, gs, rfl, rfl, L, hbk⟩ := hrel
      have hlen := L.len
      have htag := L.noTag
      have hc := (L.cells p q rfl).below (hbk.mono hB) hp
      cases gs with
      | nil =>
        simp only [PFs.len, Nat.add_zero] at hlen
        subst hlen
        clear L htag hc
        go_wp2
        go_ret
        exact ⟨rfl, hbk⟩
      | cons kk fr to nu tg df ok sub rest =>
        obtain ⟨⟨h1, h2, h3, h4, h5, h6, h7⟩, ⟨v, h8, a8, cap8, rfl, -⟩, hrest⟩ := hc
        obtain ⟨rfl, htags, htagr⟩ := htag
        simp only [PFs.len] at hlen
        have hkn : k < n := by omega
        have hpw : p < wr.heap.size := by have := hbk.size; omega
        have LN := Lib.hid (L.next)
        clear L htags htagr hrest
        go_wp2
        go_roundw
        case rel => exact ⟨k + 1, rest, by go_num, rfl, LN.out, hbk.alloc (Nat.le_trans hb hbk.size) _⟩
        case measure => simp [intOf]; omega

set_option maxRecDepth 100000 in
set_option maxHeartbeats 1600000 in
theorem spUnknown0 (fs : PFs) (ht : fs.noTag) (fv uv : Value) (u : List (Nat × List UInt8)) (hu0 : u = []) (B base : Nat) (w : World) (hB : B ≤ base) (hb : base ≤ w.heap.size) (hf : RepF B w fs fv) (hu : RepU B w u uv) :
    Says Tryz.prog 143 #[fv, uv] w base (.slice none 0 0) := by
  subst hu0
  obtain ⟨a, cap, rfl, -⟩ := hu
  have K := Lib.hid (spKnown0 fs ht fv B base w hB hb hf)
  obtain ⟨fa, fcap, rfl, -⟩ := hf
  go_enter Tryz.func143, Tryz.ntmps143
  go_wp2_with fail
  refine K.out.mono ?_
  rintro e w' ⟨rfl, hbel⟩
  go_wp2_with fail
  refine wp_loop_rounds 1 ?_
  rw [rounds_succ]
  go_wp2
  go_ret
  exact ⟨rfl, hbel⟩
end Go.Proofs.YtfchajjllhndlabGreatDoor

/- Laying a tag into a list of tags by rising numbers, step by step: where it goes, what is moved. No program in sight. -/
namespace Go.Proofs.YtfchajjllhndlabGreatDoor

/-- Where a tag is laid: behind all of lower numbers. -/
def posU {α : Type} (k : Nat) : List (Nat × α) → Nat
  | [] => 0
  | (j, _) :: r => if j < k then posU k r + 1 else 0
theorem posU_le {α : Type} (k : Nat) : ∀ l : List (Nat × α), posU k l ≤ l.length
  | [] => Nat.le_refl _
  | (j, _) :: r => by
    have := posU_le k r
    simp only [posU, List.length_cons]
    split <;> omega
theorem posU_lt {α : Type} (k : Nat) : ∀ (l : List (Nat × α)) (i : Nat) (t : Nat × α), i < posU k l → l[i]? = some t → t.1 < k
  | [], i, t, h, _ => by simp [posU] at h
  | (j, x) :: r, i, t, h, ht => by
    simp only [posU] at h
    split at h
    · rename_i hj
      cases i with
      | zero => simp at ht; subst ht; exact hj
      | succ i => exact posU_lt k r i t (by omega) (by simpa using ht)
    · omega
theorem posU_at {α : Type} (k : Nat) : ∀ (l : List (Nat × α)) (t : Nat × α), l[posU k l]? = some t → k ≤ t.1
  | [], t, h => by simp at h
  | (j, x) :: r, t, h => by
    simp only [posU] at h
    split at h
    · exact posU_at k r t (by simpa using h)
    · simp at h; subst h; simp only; omega
/-- A place ahead of which all numbers are lower, and which holds none that is lower, is the tag's. -/
theorem posU_eq {α : Type} (k : Nat) (l : List (Nat × α)) (i : Nat) (h1 : i ≤ posU k l) (h2 : ∀ t, l[i]? = some t → k ≤ t.1) : i = posU k l := by
  rcases Nat.lt_or_ge i (posU k l) with h | h
  · have hl := posU_le k l
    have hi : l[i]? = some (l[i]'(by omega)) := List.getElem?_eq_getElem _
    have := posU_lt k l i _ h hi
    have := h2 _ hi
    omega
  · omega
theorem posU_next {α : Type} (k : Nat) (l : List (Nat × α)) (i : Nat) (t : Nat × α) (h1 : i ≤ posU k l) (h2 : l[i]? = some t) (h3 : t.1 < k) : i + 1 ≤ posU k l := by
  rcases Nat.lt_or_ge i (posU k l) with h | h
  · exact h
  · have e : i = posU k l := by omega
    subst e
    have := posU_at k l t h2
    omega
/-- A tag laid in at its place, unless one of its number stands there. -/
def insG {α : Type} (k : Nat) (v : α) (l : List (Nat × α)) : List (Nat × α) :=
  match l[posU k l]? with
  | some t => if t.1 = k then l else l.take (posU k l) ++ (k, v) :: l.drop (posU k l)
  | none => l.take (posU k l) ++ (k, v) :: l.drop (posU k l)
theorem insG_there {α : Type} {k : Nat} {v : α} {l : List (Nat × α)} {t : Nat × α} (h : l[posU k l]? = some t) (hk : t.1 = k) : insG k v l = l := by simp only [insG, h, if_pos hk]
theorem insG_new {α : Type} {k : Nat} {v : α} {l : List (Nat × α)} (h : ∀ t, l[posU k l]? = some t → t.1 ≠ k) : insG k v l = l.take (posU k l) ++ (k, v) :: l.drop (posU k l) := by
  unfold insG
  split
  · rename_i t ht
    rw [if_neg (h t ht)]
  · rfl
theorem insU_insG (k : Nat) (v : List UInt8) : ∀ l : List (Nat × List UInt8), insU k v l = insG k v l
  | [] => rfl
  | (j, u) :: r => by
    have ih := insU_insG k v r
    simp only [insU, insG, posU]
    by_cases h1 : j < k
    · simp only [if_pos h1, List.getElem?_cons_succ, List.take_succ_cons, List.drop_succ_cons, List.cons_append]
      rw [ih]
      unfold insG
      split
      · rename_i t ht
        split <;> rfl
      · rfl
    · simp only [if_neg h1, List.getElem?_cons_zero, List.take_zero, List.drop_zero, List.nil_append]
theorem posU_map {α β : Type} (f : α → β) (k : Nat) : ∀ l : List (Nat × α), posU k (l.map fun t => (t.1, f t.2)) = posU k l
  | [] => rfl
  | (j, u) :: r => by simp only [List.map_cons, posU, posU_map f k r]
theorem insG_map {α β : Type} (f : α → β) (k : Nat) (v : α) (l : List (Nat × α)) : (insG k v l).map (fun t => (t.1, f t.2)) = insG k (f v) (l.map fun t => (t.1, f t.2)) := by
  unfold insG
  rw [posU_map, List.getElem?_map]
  cases h : l[posU k l]? with
  | none => simp [List.map_take, List.map_drop]
  | some t =>
    simp only [Option.map_some]
    split
    · rfl
    · simp [List.map_take, List.map_drop]
theorem insG_mem {α : Type} {k : Nat} {v : α} {l : List (Nat × α)} {t : Nat × α} (h : t ∈ insG k v l) : t = (k, v) ∨ t ∈ l := by
  unfold insG at h
  have key : t ∈ l.take (posU k l) ++ (k, v) :: l.drop (posU k l) → t = (k, v) ∨ t ∈ l := by
    intro h
    simp only [List.mem_append, List.mem_cons] at h
    rcases h with h | h | h
    · exact .inr (List.mem_of_mem_take h)
    · exact .inl h
    · exact .inr (List.mem_of_mem_drop h)
  split at h
  · split at h
    · exact .inr h
    · exact key h
  · exact key h
theorem insG_length {α : Type} (k : Nat) (v : α) (l : List (Nat × α)) : (insG k v l).length ≤ l.length + 1 := by
  unfold insG
  have hp := posU_le k l
  split
  · split
    · omega
    · simp; omega
  · simp; omega
/-- The first n tags, laid in one by one. -/
def unkTo (n : Nat) (l : List (Nat × List UInt8)) : List (Nat × List UInt8) := (l.take n).foldl (fun acc t => insU t.1 t.2 acc) []
theorem unkTo_zero (l : List (Nat × List UInt8)) : unkTo 0 l = [] := rfl
theorem unkTo_succ {l : List (Nat × List UInt8)} {n : Nat} {t : Nat × List UInt8} (h : l[n]? = some t) : unkTo (n + 1) l = insU t.1 t.2 (unkTo n l) := by
  unfold unkTo
  rw [List.take_add_one, h, List.foldl_append]
  rfl
theorem unk_unkTo (l : List (Nat × List UInt8)) : unk l = unkTo (min l.length 32767) l := by
  unfold unk unkTo
  rcases Nat.le_total l.length 32767 with h | h
  · rw [Nat.min_eq_left h, List.take_of_length_le h, List.take_of_length_le (Nat.le_refl _)]
  · rw [Nat.min_eq_right h]
theorem unkTo_length (l : List (Nat × List UInt8)) : ∀ n, (unkTo n l).length ≤ n
  | 0 => Nat.le_refl _
  | n + 1 => by
    have ih := unkTo_length l n
    cases h : l[n]? with
    | none =>
      have hn : l.length ≤ n := List.getElem?_eq_none_iff.1 h
      have e : unkTo (n + 1) l = unkTo n l := by unfold unkTo; rw [List.take_of_length_le hn, List.take_of_length_le (by omega)]
      rw [e]
      omega
    | some t =>
      rw [unkTo_succ h, insU_insG]
      have := insG_length t.1 t.2 (unkTo n l)
      omega
theorem unk_len (l : List (Nat × List UInt8)) : (unk l).length ≤ 32767 := by
  rw [unk_unkTo]
  have := unkTo_length l (min l.length 32767)
  omega

/-- The cells of tags: number, octets. -/
abbrev TV := Nat × Go.Value × List UInt8
def cellsU (l : List TV) : List Go.Value := l.flatMap fun t => [.int .u32 (t.1 : Int), t.2.1]
def bytesU (l : List TV) : List (Nat × List UInt8) := l.map fun t => (t.1, t.2.2)
theorem cellsU_length (l : List TV) : (cellsU l).length = l.length * 2 := by
  induction l with
  | nil => rfl
  | cons t l ih => simp only [cellsU, List.flatMap_cons, List.length_append, List.length_cons, List.length_nil] at ih ⊢; omega
theorem cellsU_append (l l' : List TV) : cellsU (l ++ l') = cellsU l ++ cellsU l' := by simp [cellsU]
theorem cellsU_get0 : ∀ (l : List TV) (i : Nat) (t : TV), l[i]? = some t → (cellsU l)[2 * i]? = some (.int .u32 (t.1 : Int))
  | [], i, t, h => by simp at h
  | x :: l, 0, t, h => by simp at h; subst h; rfl
  | x :: l, i + 1, t, h => by
    have := cellsU_get0 l i t (by simpa using h)
    rw [show 2 * (i + 1) = 2 * i + 1 + 1 by omega]
    simpa [cellsU] using this
theorem cellsU_get1 : ∀ (l : List TV) (i : Nat) (t : TV), l[i]? = some t → (cellsU l)[2 * i + 1]? = some t.2.1
  | [], i, t, h => by simp at h
  | x :: l, 0, t, h => by simp at h; subst h; rfl
  | x :: l, i + 1, t, h => by
    have := cellsU_get1 l i t (by simpa using h)
    rw [show 2 * (i + 1) + 1 = 2 * i + 1 + 1 + 1 by omega]
    simpa [cellsU] using this
theorem cellsU_set : ∀ (l : List TV) (i : Nat) (t : TV), i < l.length → ((cellsU l).set (2 * i) (.int .u32 (t.1 : Int))).set (2 * i + 1) t.2.1 = cellsU (l.set i t)
  | [], i, t, h => by simp at h
  | x :: l, 0, t, h => rfl
  | x :: l, i + 1, t, h => by
    have := cellsU_set l i t (by simpa using h)
    rw [show 2 * (i + 1) = 2 * i + 1 + 1 by omega]
    simp only [cellsU, List.flatMap_cons, List.cons_append, List.nil_append, List.set_cons_succ] at this ⊢
    rw [this]
/-- While tags are moved up: the first k, one to be overwritten, the others. -/
theorem shift_get {α : Type} {l : List α} {k : Nat} {x : α} (hk : k < l.length) : (l.take (k + 1) ++ x :: l.drop (k + 1))[k]? = some l[k] := by
  rw [List.getElem?_append_left (by simp; omega), List.getElem?_take, if_pos (by omega), List.getElem?_eq_getElem hk]
theorem shift_at {α : Type} {l : List α} {k : Nat} {x : α} (hk : k ≤ l.length) : (l.take k ++ x :: l.drop k)[k]? = some x := by
  have e : (l.take k).length = k := by rw [List.length_take]; omega
  rw [List.getElem?_append_right (by omega), e, Nat.sub_self, List.getElem?_cons_zero]
theorem shift_set {α : Type} {l : List α} {k : Nat} {x : α} (hk : k < l.length) : (l.take (k + 1) ++ x :: l.drop (k + 1)).set (k + 1) l[k] = l.take k ++ l[k] :: l.drop k := by
  rw [List.set_append_right _ _ (by simp; omega)]
  have e : k + 1 - (l.take (k + 1)).length = 0 := by simp; omega
  rw [e, List.set_cons_zero, List.take_add_one, List.getElem?_eq_getElem hk]
  simp only [Option.toList_some, List.append_assoc, List.cons_append, List.nil_append]
  congr 2
  rw [List.drop_eq_getElem_cons hk]
theorem shift_fin {α : Type} {l : List α} {k : Nat} {x y : α} (hk : k ≤ l.length) : (l.take k ++ x :: l.drop k).set k y = l.take k ++ y :: l.drop k := by
  rw [List.set_append_right _ _ (by simp; omega)]
  have e : k - (l.take k).length = 0 := by simp; omega
  rw [e, List.set_cons_zero]
end Go.Proofs.YtfchajjllhndlabGreatDoor
