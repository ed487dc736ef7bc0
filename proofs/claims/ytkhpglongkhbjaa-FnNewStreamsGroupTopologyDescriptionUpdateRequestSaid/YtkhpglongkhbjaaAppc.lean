/- The code that writes a part, third part: 16 octets, named numbers, a text that may be null from a version on, a part that may be null; the whole function. Any program. -/
import Derived.Test.YtkhpglongkhbjaaAppb
import Derived.Laws.CopyOwn
namespace Go.Proofs.Ytkhpglongkhbjaa
open Go Go.RowKit

section
variable {RT : RTags} {P : Program} {N nt : Nat} {w0 : World} {K : Slots} {lo t : Nat}

/-- A variable of type U is so many cells. -/
structure ManyCells (P : Program) (U n : Nat) : Prop where
  agg : ∀ w, (isAgg U).run P w = .ok true w
  info : ∃ i z, P.info? U = some i ∧ i.size = n ∧ i.zero = some (.agg z) ∧ z.size = n

theorem run_load_many {U n : Nat} (hU : ManyCells P U n) {w : World} {ad : Addr} {l : List Value} (hl : l.length = n) (hc : ∀ j v, l[j]? = some v → w.cell? (ad.add j) = some v) : (Instr.loadAt U (.pointer (some ad))).run P w = .ok (.agg l.toArray) w := by
  obtain ⟨i, z, hi, hs, -, -⟩ := hU.info
  have h := run_loadCells_list (P := P) w ad l hc
  rw [hl, ← hs] at h
  simp [Instr.loadAt, Instr.sureAddr, loadVar, hU.agg w, sizeOf, typeInfo, hi, h]
theorem run_alloc_many {U n : Nat} (hU : ManyCells P U n) (w : World) : ∃ z : Array Value, z.size = n ∧ (Instr.alloc U true (.tuple #[])).run P w = .ok (.pointer (some ⟨w.heap.size, 0, none⟩)) (w.alloc (.cells z U)) := by
  obtain ⟨i, z, hi, hs, hz, hzs⟩ := hU.info
  exact ⟨z, hzs, by simp [Instr.alloc, zeroValue, typeInfo, hi, hz, newVar, newRow, Value.cells]⟩
theorem run_store_many {U n : Nat} (hU : ManyCells P U n) {w : World} {g : Nat} {cur : Array Value} {T : Nat} (hg : w.heap[g]? = some (.cells cur T (0, 0))) (hcur : cur.size = n) {l : List Value} (hl : l.length = n) (h1 : ∀ v ∈ l, v.oneCell' = true) :
    (Instr.storeAt U (.pointer (some ⟨g, 0, none⟩)) (.agg l.toArray)).run P w = .ok () (w.setRow g l.toArray) := by
  obtain ⟨i, z, hi, hs, -, -⟩ := hU.info
  have h := run_storeCells_at P g 0 T l 0 cur w hg (by omega) h1
  have e : (cur.toList.take (0 + 0) ++ l ++ cur.toList.drop (0 + 0 + l.length)).toArray = l.toArray := by
    rw [List.drop_eq_nil_of_le (by simp; omega)]
    simp
  rw [e] at h
  simp [Instr.storeAt, Instr.sureAddr, storeVar, sizeOf, typeInfo, hi, Value.cells, hl, hs, h]

theorem reg_uuid2 {v t2 U F r' ty7 ty8 ty9 ty10 : Nat} {p7 p8 p9 p10 : String} {e7 e8 e9 e10 : Array Edge} {at_ : Array TypeId} {a a1 : Act} {w1 : World} {bs u : List UInt8} {g T0 : Nat} {Q : Exit → Act → World → Prop}
    (hU : ManyCells P U 16) (he : Enters P F) (hF : ∀ u : List UInt8, u.length = 16 → AppC P F (.agg (u.map byteV).toArray) u) (hu : u.length = 16) (hblk : Blk w1 g (u.map byteV) T0) (hbel : Below w0.heap.size w0 w1) (hown : Own w0.heap.size w1 (aget a 1) bs)
    (h11 : aget a1 1 = aget a 1) (hN1 : a1.tmps.size = nt) (hv1 : aget a1 v = .pointer (some ⟨g, 0, none⟩)) (hd : t ≤ t2 ∧ t2 + 2 < nt ∧ v ≠ t2 ∧ 1 < lo ∧ lo ≤ N ∧ N ≤ t ∧ t ≤ nt) (hl : bs.length + u.length ≤ lim)
    (hq : ∀ a' w', St nt w0 a' w' (bs ++ u) → Fr N lo t 1 a1 a' → Q .normal a' w') :
    (Code.region r' #[⟨some t2, .move (.tmp 1), ty7, p7, e7, none⟩, ⟨some (t2 + 1), .load U (.tmp v), ty8, p8, e8, none⟩, ⟨some (t2 + 2), .call { callee := .value (.func F), args := #[.tmp t2, .tmp (t2 + 1)], argTypes := at_ }, ty9, p9, e9, none⟩,
        ⟨some 1, .assign (.tmp (t2 + 2)), ty10, p10, e10, none⟩] false).wp P Q a1 w1 := by
  obtain ⟨d5, d6, d7, g1, g2, g3, g4⟩ := hd
  refine wp_reg ?_
  refine wl_move rfl ?_
  refine wl_value (v := .agg (u.map byteV).toArray) (w' := w1) rfl ?_ ?_
  · have e1 : ∀ A : Act, aget A v = .pointer (some ⟨g, 0, none⟩) → (execOp A.eval ⟨some (t2 + 1), .load U (.tmp v), ty8, p8, e8, none⟩).run P w1 = .ok (.value (.agg (u.map byteV).toArray)) w1 := by
      intro A hA
      have e2 : A.eval (.tmp v) = .pointer (some ⟨g, 0, none⟩) := hA
      have := run_load_many (P := P) hU (w := w1) (ad := ⟨g, 0, none⟩) (l := u.map byteV) (by simpa using hu) (fun j x hx => by
        rw [Addr.add_lit, Nat.zero_add]
        exact hblk.cell_some hx)
      simp [execOp, e2, this]
    exact e1 _ (by rw [aget_put_other _ _ _ _ (by omega)]; exact hv1)
  refine wl_call (R := Appended w0.heap.size w1 (bs ++ u)) he ?_ ?_
  · simp only [List.map_toArray, List.map_cons, List.map_nil, aget_eval]
    rw [aget_put_other _ _ _ _ (by omega), aget_put_same _ _ _ (by omega), aget_put_same _ _ _ (by simp only [size_put]; omega), h11]
    exact hF u hu w0.heap.size w1 _ bs hown hbel.size hl
  rintro e w' ⟨v', rfl, hown', hbel'⟩
  refine ⟨v', rfl, ?_⟩
  refine wl_assign (aget_put_same _ _ _ (by simp only [size_put]; omega)) ?_
  refine wpList_nil (hq _ _ ⟨by simp only [size_put, hN1], ?_, hbel.trans hbel'⟩ (((((Fr.refl N lo t 1 a1).put _ _ (by omega)).put _ _ (by omega)).put _ _ (by omega)).put _ _ (by omega)))
  rw [aget_put_same _ _ _ (by simp only [size_put]; omega)]
  exact hown'

/-- '{ v := s.F; dst = AppendUuid(dst, v) }'. -/
theorem appF_uuid {ver : Int} {flex : Bool} {s v t1 t2 T k U F off r r' ty1 ty2 ty3 ty4 ty5 ty6 ty7 ty8 ty9 ty10 : Nat} {p1 p2 p3 p4 p5 p6 p7 p8 p9 p10 : String} {e1 e2 e3 e4 e5 e6 e7 e8 e9 e10 : Array Edge} {at_ : Array TypeId}
    (hT : FieldAt P T k off) (hU : ManyCells P U 16) (he : Enters P F) (hF : ∀ u : List UInt8, u.length = 16 → AppC P F (.agg (u.map byteV).toArray) u) (hD : Dims N nt lo t) (hd : t ≤ t1 ∧ t1 + 3 < nt ∧ lo ≤ v ∧ v < N ∧ t ≤ t2 ∧ t2 + 2 < nt ∧ v ≠ t2 ∧ v ≠ 1) :
    AppF RT P N nt ver flex K lo t s ((Code.region r #[⟨some t1, .move (.tmp s), ty1, p1, e1, none⟩, ⟨some (t1 + 1), .nilCheck (.tmp t1), ty2, p2, e2, none⟩, ⟨some (t1 + 2), .fieldAddr T (.tmp (t1 + 1)) k, ty3, p3, e3, none⟩,
      ⟨some (t1 + 3), .load U (.tmp (t1 + 2)), ty4, p4, e4, none⟩, ⟨some v, .alloc U, ty5, p5, e5, none⟩, ⟨none, .store U (.tmp v) (.tmp (t1 + 3)), ty6, p6, e6, none⟩] false).seq
      (.region r' #[⟨some t2, .move (.tmp 1), ty7, p7, e7, none⟩, ⟨some (t2 + 1), .load U (.tmp v), ty8, p8, e8, none⟩, ⟨some (t2 + 2), .call { callee := .value (.func F), args := #[.tmp t2, .tmp (t2 + 1)], argTypes := at_ }, ty9, p9, e9, none⟩,
        ⟨some 1, .assign (.tmp (t2 + 2)), ty10, p10, e10, none⟩] false)) off (.leaf .uuid) := by
  intro w0 b o gv hrep a w bs Q hst hh hl hq
  cases gv <;> simp only [Rep, RepLeaf] at hrep <;> try exact hrep.elim
  rename_i u
  obtain ⟨hu, hc⟩ := hrep
  obtain ⟨d1, d2, d3, d4, d5, d6, d7, d8⟩ := hd
  obtain ⟨g1, g2, g3, g4⟩ := hD
  have hN := hst.size
  have hone : ∀ x ∈ u.map byteV, x.oneCell' = true := by
    intro x hx
    obtain ⟨_, _, rfl⟩ := List.mem_map.1 hx
    rfl
  refine wp_seq (wp_reg ?_)
  refine wl_move hh.head ?_
  refine wl_nilCheck (aget_put_same _ _ _ (by (first | rw [hN] | simp only [size_put, hN]); omega)) ?_
  refine wl_fieldAddr hT (aget_put_same _ _ _ (by (first | rw [hN] | simp only [size_put, hN]); omega)) ?_
  rw [Addr.add_lit]
  refine wl_value (v := .agg (u.map byteV).toArray) (w' := w) rfl ?_ ?_
  · have e1 : ∀ A : Act, aget A (t1 + 2) = .pointer (some ⟨b, o + off, none⟩) → (execOp A.eval ⟨some (t1 + 3), .load U (.tmp (t1 + 2)), ty4, p4, e4, none⟩).run P w = .ok (.value (.agg (u.map byteV).toArray)) w := by
      intro A hA
      have e2 : A.eval (.tmp (t1 + 2)) = .pointer (some ⟨b, o + off, none⟩) := hA
      have := run_load_many (P := P) hU (w := w) (ad := ⟨b, o + off, none⟩) (l := u.map byteV) (by simpa using hu) (fun j x hx => by
        rw [Addr.add_lit]
        rw [List.getElem?_map] at hx
        cases hj : u[j]? with
        | none => simp [hj] at hx
        | some y =>
          rw [hj] at hx
          cases hx
          exact hst.cell (hc j y hj))
      simp [execOp, e2, this]
    exact e1 _ (aget_put_same _ _ _ (by (first | rw [hN] | simp only [size_put, hN]); omega))
  obtain ⟨z, hz, hza⟩ := run_alloc_many (P := P) hU w
  refine wl_value (v := .pointer (some ⟨w.heap.size, 0, none⟩)) (w' := w.alloc (.cells z U)) rfl (by simp [execOp, hza]) ?_
  obtain ⟨w1, hrun, hblk, hbel, hown⟩ : ∃ w1, (Instr.storeAt U (.pointer (some ⟨w.heap.size, 0, none⟩)) (.agg (u.map byteV).toArray)).run P (w.alloc (.cells z U)) = .ok () w1 ∧ Blk w1 w.heap.size (u.map byteV) U ∧
      Below w0.heap.size w0 w1 ∧ Own w0.heap.size w1 (aget a 1) bs := by
    refine ⟨_, run_store_many (P := P) hU (w := w.alloc (.cells z U)) (g := w.heap.size) (cur := z) (T := U) (heap_alloc_new w _) hz (l := u.map byteV) (by simpa using hu) hone, setRow_heap _ _ _ _ _ _ (heap_alloc_new w _),
      below_setRow (hst.below.alloc hst.below.size _) hst.below.size _, ?_⟩
    refine World.ownsRow.kept hst.own (row := none) ⟨rfl, rfl, rfl, ?_, ?_⟩ ?_
    · simp [World.setRow]
    · intro j hj _
      rw [setRow_other _ _ _ _ (by omega)]
      exact Below.heap_alloc w _ j hj
    · cases h : (aget a 1).ownBlock <;> simp
  refine wl_store (w' := w1) ?_ ?_
  · rw [aget_eval, aget_eval, aget_put_same _ _ _ (by (first | rw [hN] | simp only [size_put, hN]); omega), aget_put_other _ _ _ _ (by omega), aget_put_same _ _ _ (by (first | rw [hN] | simp only [size_put, hN]); omega)]
    exact hrun
  have f1 : Fr N lo t nt a (Act.put (Act.put (Act.put (Act.put (Act.put a (some t1) (.pointer (some ⟨b, o, none⟩))) (some (t1 + 1)) (.pointer (some ⟨b, o, none⟩))) (some (t1 + 2)) (.pointer (some ⟨b, o + off, none⟩))) (some (t1 + 3)) (.agg (u.map byteV).toArray)) (some v) (.pointer (some ⟨w.heap.size, 0, none⟩))) :=
    (((((Fr.refl N lo t nt a).put _ _ (by omega)).put _ _ (by omega)).put _ _ (by omega)).put _ _ (by omega)).put _ _ (by omega)
  refine wpList_nil ?_
  simp only [ap, apLeaf] at hl hq
  exact reg_uuid2 hU he hF hu hblk hbel hown (f1.same 1 (by omega) (.inl g1)) (f1.size.trans hN) (aget_put_same _ _ _ (by (first | rw [hN] | simp only [size_put, hN]); omega)) ⟨d5, d6, d7, g1, g2, g3, g4⟩ hl fun a' w' hs hf => hq a' w' hs ((f1.to1 ⟨g1, g2, g3, g4⟩).trans hf)

/-- A number of a named type: '{ v := int8(v); .. }'. -/
theorem appL_copy {ver : Int} {flex : Bool} {u v t1 r ty1 ty2 lo' t' : Nat} {p1 p2 : String} {e1 e2 : Array Edge} {c : Code} {lf : Leaf}
    (hk : KOK N lo t K) (hD : Dims N nt lo t) (hd : t ≤ t1 ∧ t1 < nt ∧ lo ≤ v ∧ v < N ∧ v < lo' ∧ lo ≤ lo' ∧ t ≤ t') (h : AppL P N nt ver flex K lo' t' v c lf) :
    AppL P N nt ver flex K lo t u ((Code.region r #[⟨some t1, .move (.tmp u), ty1, p1, e1, none⟩, ⟨some v, .assign (.tmp t1), ty2, p2, e2, none⟩] false).seq c) lf := by
  intro w0 b o x gv hrep hc a w bs Q hst hh hl hq
  obtain ⟨d1, d2, d3, d4, d5, d6, d7⟩ := hd
  refine wp_seq (reg_copy (x0 := nt) (lo := lo) hst.size hh.head ⟨hD.dT, d1, d2, d3, d4⟩ fun a' hfr0 hx => ?_)
  have hfr := hfr0.to1 hD
  exact h w0 b o x gv hrep hc a' w bs _ (hst.fr hfr0 hD) ((hh.tail.fr hk hfr).cons hx) hl fun a2 w2 hs2 hf2 => hq a2 w2 hs2 (hfr.trans (hf2.mono d6 d7))

/-- The whole of AppendTo, of a message that has flexible versions. -/
theorem calls_append_flex {f : Nat} {fn : Func} {rs sv sf t1 t2 t3 t4 T k U J1 J2 r0 r1 r2 r3 r4 ty0 ty1 ty2 ty3 ty4 ty5 ty6 ty7 ty8 ty9 ty10 : Nat} {p0 p1 p2 p3 p4 p5 p6 p7 p8 p9 p10 : String} {e0 e1 e2 e3 e4 e5 e6 e7 e8 e9 e10 : Array Edge} {c : Code} {m : Int}
    {sch : Sch} {ver : Int} {b o : Nat} {v : GV} {off0 : Nat}
    (hf : P.funcs[f]? = some fn)
    (hbody : fn.body = some ((Code.region r0 #[⟨some rs, .assign (.const (.slice none 0 0)), ty0, p0, e0, none⟩] false).seq
      ((Code.region r1 #[⟨some t1, .move (.tmp 0), ty1, p1, e1, none⟩, ⟨some (t1 + 1), .nilCheck (.tmp t1), ty2, p2, e2, none⟩, ⟨some (t1 + 2), .fieldAddr T (.tmp (t1 + 1)) k, ty3, p3, e3, none⟩,
        ⟨some (t1 + 3), .load U (.tmp (t1 + 2)), ty4, p4, e4, none⟩, ⟨some sv, .assign (.tmp (t1 + 3)), ty5, p5, e5, none⟩] false).seq
      ((Code.region r2 #[⟨some t2, .move (.tmp sv), ty6, p6, e6, none⟩] false).seq
      ((Code.region r3 #[⟨some t3, .move (.tmp sv), ty7, p7, e7, none⟩, ⟨some (t3 + 1), .binOp .geq J1 (.tmp t3) (.const (.int .i16 m)) J2, ty8, p8, e8, none⟩, ⟨some sf, .assign (.tmp (t3 + 1)), ty9, p9, e9, none⟩] false).seq
      ((Code.region r4 #[⟨some t4, .move (.tmp sf), ty10, p10, e10, none⟩] false).seq c))))))
    (hnt : fn.ntmps = nt) (hres : fn.results = #[.tmp rs]) (hT : FieldAt P T k off0) (hU : OneCell P U)
    (hd : N ≤ t1 ∧ t1 + 3 < nt ∧ N ≤ t2 ∧ t2 < nt ∧ N ≤ t3 ∧ t3 + 1 < nt ∧ N ≤ t4 ∧ t4 < nt ∧ 1 < rs ∧ rs < sv ∧ sv < sf ∧ sf < N ∧ 2 ≤ nt ∧ N ≤ nt)
    (hver : w0.cell? ⟨b, o + off0, none⟩ = some (.int .i16 ver)) (hrep : Rep RT [] w0 ver (hasV m none ver) sch b o v)
    (hc : AppRS RT P N nt ver (hasV m none ver) [(sv, .int .i16 ver), (sf, .bool (hasV m none ver))] rs 0 c sch) (hl : (ap ver (hasV m none ver) sch v).length ≤ lim) :
    Calls P f #[.pointer (some ⟨b, o, none⟩), .slice none 0 0] w0 (Appended w0.heap.size w0 (ap ver (hasV m none ver) sch v)) := by
  obtain ⟨d1, d2, d3, d4, d5, d6, d7, d8, d9, d10, d11, d12, d13, d14⟩ := hd
  refine calls_of_wp hf hbody ?_
  rw [hnt]
  have hD : Dims N nt 2 N := ⟨by omega, by omega, Nat.le_refl _, d14⟩
  have hsz : (#[Value.pointer (some ⟨b, o, none⟩), Value.slice none 0 0] ++ Array.replicate (nt - (#[Value.pointer (some ⟨b, o, none⟩), Value.slice none 0 0]).size) undef).size = nt := by simp; omega
  generalize hA : ({ tmps := #[Value.pointer (some ⟨b, o, none⟩), Value.slice none 0 0] ++ Array.replicate (nt - (#[Value.pointer (some ⟨b, o, none⟩), Value.slice none 0 0]).size) undef, defers := [] } : Act) = A
  have hAs : A.tmps.size = nt := by rw [← hA]; exact hsz
  have hA0 : aget A 0 = .pointer (some ⟨b, o, none⟩) := by rw [← hA]; simp [aget, Array.getD_eq_getD_getElem?, Array.getElem?_append]
  have hA1 : aget A 1 = .slice none 0 0 := by rw [← hA]; simp [aget, Array.getD_eq_getD_getElem?, Array.getElem?_append]
  have hAd : A.defers = [] := by rw [← hA]
  clear hA hsz
  have hst : St nt w0 A w0 [] := ⟨hAs, by rw [hA1]; exact Own.nil _ _, Below.refl _ _⟩
  refine wp_seq (wp_reg ?_)
  refine wl_assign_c ?_
  refine wpList_nil ?_
  simp only [Exit.then]
  have f1 : Fr N 2 N nt A (A.put (some rs) (.slice none 0 0)) := (Fr.refl ..).put _ _ (by omega)
  have st1 := hst.fr f1 hD
  refine wp_seq (reg_load (N := N) (t := N) (x0 := nt) (lo := 2) hT hU st1.size (by rw [f1.same 0 (by omega) (.inl (by omega))]; exact hA0) (by rw [Addr.add_lit]; exact hver) ⟨Nat.le_refl _, d1, d2, by omega, by omega⟩ fun a2 f2 x2 => ?_)
  have st2 := st1.fr f2 hD
  refine wp_seq (reg_flag (N := N) (t := N) (x0 := nt) (lo := N) st2.size x2 ⟨Nat.le_refl _, d3, d4, Nat.le_refl _⟩ fun a3 f3 _ => ?_)
  have st3 := st2.fr (f3.mono (by omega) (Nat.le_refl _)) hD
  have x3 : aget a3 sv = .int .i16 ver := (f3.same sv (by omega) (.inl (by omega))).trans x2
  refine wp_seq (reg_cmpv (N := N) (t := N) (x0 := nt) (lo := sf) (b := hasV m none ver) st3.size x3 ⟨Nat.le_refl _, d5, d6, Nat.le_refl _, d12⟩ (fun w => by rw [run_cmp_i16]; simp [hasV]) fun a4 f4 x4 => ?_)
  have st4 := st3.fr (f4.mono (by omega) (Nat.le_refl _)) hD
  have y4 : aget a4 sv = .int .i16 ver := (f4.same sv (by omega) (.inl (by omega))).trans x3
  refine wp_seq (reg_flag (N := N) (t := N) (x0 := nt) (lo := N) st4.size x4 ⟨Nat.le_refl _, d7, d8, Nat.le_refl _⟩ fun a5 f5 _ => ?_)
  have st5 := st4.fr (f5.mono (by omega) (Nat.le_refl _)) hD
  have x5 : aget a5 sf = .bool (hasV m none ver) := (f5.same sf (by omega) (.inl (by omega))).trans x4
  have y5 : aget a5 sv = .int .i16 ver := (f5.same sv (by omega) (.inl (by omega))).trans y4
  have z5 : aget a5 0 = .pointer (some ⟨b, o, none⟩) := (f5.same 0 (by omega) (.inl (by omega))).trans ((f4.same 0 (by omega) (.inl (by omega))).trans ((f3.same 0 (by omega) (.inl (by omega))).trans ((f2.same 0 (by omega) (.inl (by omega))).trans ((f1.same 0 (by omega) (.inl (by omega))).trans hA0))))
  refine hc w0 b o v hrep a5 w0 [] _ st5 ?_ (by simpa using hl) fun a6 w6 st6 r6 df6 => ?_
  · intro p hp
    simp only [List.mem_cons, List.not_mem_nil, or_false] at hp
    rcases hp with rfl | rfl | rfl
    · exact z5
    · exact y5
    · exact x5
  · refine bodyPost_ret (v := aget a6 1) ?_ (df6.trans (f5.defers.trans (f4.defers.trans (f3.defers.trans (f2.defers.trans (f1.defers.trans hAd)))))) ⟨_, rfl, ?_, st6.below⟩
    · rw [← r6]
      exact results_tmp hres _ _ _
    · simpa using st6.own
end
end Go.Proofs.Ytkhpglongkhbjaa
