/- Reading of messages that are kept: the version stands ahead, in two octets. -/
import Derived.Test.YtfchajjllhndlaaDoorMd
namespace Go.Proofs.YtfchajjllhndlaaDoor
open Go Go.RowKit
set_option linter.unusedVariables false

section
variable {RT : RTags} {P : Program} {N nt gE : Nat} {E : Value} {K : Slots} {lo t : Nat} {ver : Int} {flex : Bool}
/-- The version, and what is read at it. -/
def rdK (fl : Int → Bool) (sch : Sch) : Pr (Int × GV) := (rdInt 2 32768).bind fun ver => (rd ver (fl ver) sch).bind fun v => .pure (ver, v)
def KeptPost (RT : RTags) (E : Value) (fl : Int → Bool) (sch : Sch) (b o off0 : Nat) (bs : List UInt8) (w : World) (en : Ending) (w' : World) : Prop :=
  en = .returned (if (rdK fl sch bs).isSome then .nilIface else E) ∧ Keeps [b] w w' ∧ ∀ ver v r, rdK fl sch bs = some ((ver, v), r) → Rep RT [] w' ver (fl ver) sch b o v ∧ w'.cell? ⟨b, o + off0, none⟩ = some (.int .i16 ver)
theorem read_headK {f : Nat} {fn : Func} {rs bp sv t1 t2 t3 tk FD FI U Tm Uv k r0 r1 r2 r3 rk z1 z2 z3 z4 z5 y1 y2 y3 y4 y5 y6 y7 y8 y9 y10 y11 y12 : Nat} {qk1 qk2 qk3 qk4 qk5 q1 q2 q3 q4 q5 q6 q7 q8 q9 q10 q11 q12 : String} {gk1 gk2 gk3 gk4 gk5 g1 g2 g3 g4 g5 g6 g7 g8 g9 g10 g11 g12 : Array Edge} {at_ atk : Array TypeId} {c : Code}
    {sch : Sch} {b o T off0 : Nat} {w : World} {src : Value} {bs : List UInt8} {R : Ending → World → Prop}
    (hf : P.funcs[f]? = some fn)
    (hbody : fn.body = some ((Code.region r0 #[⟨some rs, .assign (.const .nilIface), y1, q1, g1, none⟩] false).seq
      ((Code.region r1 #[⟨some t1, .move (.tmp 0), y2, q2, g2, none⟩, ⟨some (t1 + 1), .call { callee := .value (.func FD), args := #[.tmp t1], argTypes := at_ }, y3, q3, g3, none⟩] false).seq
      ((Code.region r2 #[⟨some t2, .move (.tmp 1), y4, q4, g4, none⟩, ⟨some (t2 + 1), .build U #[(0, .tmp t2)], y5, q5, g5, none⟩, ⟨some bp, .alloc U, y6, q6, g6, none⟩, ⟨none, .store U (.tmp bp) (.tmp (t2 + 1)), y7, q7, g7, none⟩] false).seq
      ((Code.region rk #[⟨some tk, .move (.tmp 0), z1, qk1, gk1, none⟩, ⟨some (tk + 1), .call { callee := .value (.func FI), args := #[.tmp bp], argTypes := atk }, z2, qk2, gk2, none⟩, ⟨some (tk + 2), .nilCheck (.tmp tk), z3, qk3, gk3, none⟩, ⟨some (tk + 3), .fieldAddr Tm (.tmp (tk + 2)) k, z4, qk4, gk4, none⟩,
        ⟨none, .store Uv (.tmp (tk + 3)) (.tmp (tk + 1)), z5, qk5, gk5, none⟩] false).seq
      ((Code.region r3 #[⟨some t3, .move (.tmp 0), y8, q8, g8, none⟩, ⟨some (t3 + 1), .nilCheck (.tmp t3), y9, q9, g9, none⟩, ⟨some (t3 + 2), .fieldAddr Tm (.tmp (t3 + 1)) k, y10, q10, g10, none⟩,
        ⟨some (t3 + 3), .load Uv (.tmp (t3 + 2)), y11, q11, g11, none⟩, ⟨some sv, .assign (.tmp (t3 + 3)), y12, q12, g12, none⟩] false).seq c))))))
    (hnt : fn.ntmps = nt) (he : Enters P FD) (heI : Enters P FI) (hI : RdC P FI (rdInt 2 32768) (fun _ _ v n => v = .int .i16 n) (fun v => v = .int .i16 0)) (hFr : ∀ (cs : List Value) (y : Value), Fresh cs o sch → Fresh (cs.set (o + off0) y) o sch) (hT : FieldAt P Tm k off0) (hUv : OneCell P Uv) (hU : ManyCells P U 2) (hUr : U = 118) (hB : ∀ ad n m, P.built U [(0, .slice ad n m)] = some #[.slice ad n m, .bool false])
    (hd : N ≤ t1 ∧ t1 + 1 < nt ∧ N ≤ t2 ∧ t2 + 1 < nt ∧ N ≤ t3 ∧ t3 + 3 < nt ∧ N ≤ tk ∧ tk + 3 < nt ∧ 2 < rs ∧ rs < bp ∧ bp < sv ∧ sv < N ∧ 3 ≤ nt ∧ N ≤ nt)
    (hver : ∃ x0, w.cell? ⟨b, o + off0, none⟩ = some x0) (hDef : DefT P FD b o T off0 sch w) (hs : RB [b] w src bs) (hbs : bs.length ≤ lim) (hE : w.cell? ⟨gE, 0, none⟩ = some E) (hgE : gE ≠ b) (hb : b < w.heap.size)
    (h : ∀ a w2 rb cs ver st, (∀ n r, rdInt 2 32768 bs = some (n, r) → ver = n ∧ st = some r) → (rdInt 2 32768 bs = none → ver = 0 ∧ st = none) → w.heap.size ≤ rb → a.tmps.size = nt → a.defers = [] → Holds [(0, .pointer (some ⟨b, o, none⟩)), (bp, .pointer (some ⟨rb, 0, none⟩)), (sv, .int .i16 ver), (rs, .nilIface), (2, .bool false)] a → RSt gE E [rb, b] w2 rb b cs T st → Fresh cs o sch → w2.cell? ⟨b, o + off0, none⟩ = some (.int .i16 ver) → Keeps [rb, b] w w2 → c.wp P (bodyPost P fn R) a w2) :
    Calls P f #[.pointer (some ⟨b, o, none⟩), src, .bool false] w R := by
  obtain ⟨d1, d2, d3, d4, d5, d6, dk1, dk2, d7, d8, d9, d10, d11, d12⟩ := hd
  obtain ⟨sad, scap, rfl, -⟩ : ∃ a cap, src = .slice a bs.length cap ∧ True := by obtain ⟨a, cap, h, -⟩ := hs; exact ⟨a, cap, h, trivial⟩
  refine calls_of_wp hf hbody ?_
  rw [hnt]
  have hsz : (#[Value.pointer (some ⟨b, o, none⟩), .slice sad bs.length scap, .bool false] ++ Array.replicate (nt - (#[Value.pointer (some ⟨b, o, none⟩), .slice sad bs.length scap, .bool false]).size) undef).size = nt := by simp; omega
  generalize hA : ({ tmps := #[Value.pointer (some ⟨b, o, none⟩), .slice sad bs.length scap, .bool false] ++ Array.replicate (nt - (#[Value.pointer (some ⟨b, o, none⟩), .slice sad bs.length scap, .bool false]).size) undef, defers := [] } : Act) = A
  have hAs : A.tmps.size = nt := by rw [← hA]; exact hsz
  have hA0 : aget A 0 = .pointer (some ⟨b, o, none⟩) := by rw [← hA]; simp [aget, Array.getD_eq_getD_getElem?, Array.getElem?_append]
  have hA1 : aget A 1 = .slice sad bs.length scap := by rw [← hA]; simp [aget, Array.getD_eq_getD_getElem?, Array.getElem?_append]
  have hA2 : aget A 2 = .bool false := by rw [← hA]; simp [aget, Array.getD_eq_getD_getElem?, Array.getElem?_append]
  have hAd : A.defers = [] := by rw [← hA]
  clear hA hsz
  refine wp_seq (wp_reg ?_)
  refine wl_assign_c ?_
  refine wpList_nil ?_
  simp only [Exit.then]
  have f1 : Fr N rs N nt A (A.put (some rs) .nilIface) := (Fr.refl ..).put _ _ (by omega)
  have n1 : aget (A.put (some rs) .nilIface) rs = .nilIface := aget_put_same _ _ _ (by omega)
  generalize A.put (some rs) .nilIface = A1 at *
  have s1 := f1.size.trans hAs
  have z1 : aget A1 0 = .pointer (some ⟨b, o, none⟩) := (f1.same 0 (by omega) (.inl (by omega))).trans hA0
  refine wp_seq (wp_reg ?_)
  refine wl_move z1 ?_
  refine wl_call (R := fun en w' => ∃ cs', en = .returned (.tuple #[]) ∧ Blk w' b cs' T ∧ Keeps [b] w w' ∧ Fresh cs' o sch ∧ w'.cell? ⟨b, o + off0, none⟩ = w.cell? ⟨b, o + off0, none⟩) he ?_ ?_
  · simp only [List.map_toArray, List.map_cons, List.map_nil, aget_eval]
    rw [aget_put_same _ _ _ (by omega)]
    exact hDef
  rintro en w1 ⟨cs, rfl, hb1, hk1, hF1, hv1⟩
  refine ⟨_, rfl, wpList_nil ?_⟩
  simp only [Exit.then]
  have f2 : Fr N N N nt A1 ((A1.put (some t1) (.pointer (some ⟨b, o, none⟩))).put (some (t1 + 1)) (.tuple #[])) := ((Fr.refl ..).put _ _ (by omega)).put _ _ (by omega)
  generalize ((A1.put (some t1) (.pointer (some ⟨b, o, none⟩))).put (some (t1 + 1)) (.tuple #[])) = A2 at *
  have s2 := f2.size.trans s1
  have z2 : aget A2 0 = .pointer (some ⟨b, o, none⟩) := (f2.same 0 (by omega) (.inl (by omega))).trans z1
  have v2 : aget A2 1 = .slice sad bs.length scap := (f2.same 1 (by omega) (.inl (by omega))).trans ((f1.same 1 (by omega) (.inl (by omega))).trans hA1)
  refine wp_seq (wp_reg ?_)
  refine wl_move v2 ?_
  refine wl_value (v := .agg #[.slice sad bs.length scap, .bool false]) (w' := w1) rfl ?_ ?_
  · have e1 : (A2.put (some t2) (.slice sad bs.length scap)).eval (.tmp t2) = .slice sad bs.length scap := aget_put_same _ _ _ (by omega)
    have e2 := run_build (P := P) w1 U #[(0, .slice sad bs.length scap)] _ (hB sad bs.length scap)
    simp [execOp, e1, e2]
  obtain ⟨z, hz, hza⟩ := run_alloc_many (P := P) hU w1
  refine wl_value (v := .pointer (some ⟨w1.heap.size, 0, none⟩)) (w' := w1.alloc (.cells z U)) rfl (by simp [execOp, hza]) ?_
  have hg : (w1.alloc (.cells z U)).heap[w1.heap.size]? = some (.cells z U (0, 0)) := heap_alloc_new w1 _
  refine wl_store (w' := (w1.alloc (.cells z U)).setRow w1.heap.size #[.slice sad bs.length scap, .bool false]) ?_ ?_
  · rw [aget_eval, aget_eval, aget_put_same _ _ _ (by simp only [size_put]; omega), aget_put_other _ _ _ (t2 + 1) (by omega), aget_put_same _ _ _ (by simp only [size_put]; omega)]
    exact run_store_many (P := P) hU hg hz (l := [.slice sad bs.length scap, .bool false]) rfl (by simp [Value.oneCell'])
  refine wpList_nil ?_
  simp only [Exit.then]
  have hblk : Blk ((w1.alloc (.cells z U)).setRow w1.heap.size #[.slice sad bs.length scap, .bool false]) w1.heap.size [.slice sad bs.length scap, .bool false] U := setRow_heap _ _ _ _ _ _ hg
  have hk0 : Keeps [] w1 ((w1.alloc (.cells z U)).setRow w1.heap.size #[.slice sad bs.length scap, .bool false]) := by
    exact Keeps.of_below (below_setRow (Below.alloc (Below.refl w1.heap.size w1) (Nat.le_refl _) (.cells z U)) (Nat.le_refl _) _) (Nat.le_refl _)
  generalize ((w1.alloc (.cells z U)).setRow w1.heap.size #[.slice sad bs.length scap, .bool false]) = w2 at *
  have f3 : Fr N bp N nt A2 (((A2.put (some t2) (.slice sad bs.length scap)).put (some (t2 + 1)) (.agg #[.slice sad bs.length scap, .bool false])).put (some bp) (.pointer (some ⟨w1.heap.size, 0, none⟩))) := (((Fr.refl ..).put _ _ (by omega)).put _ _ (by omega)).put _ _ (by omega)
  have p3 : aget (((A2.put (some t2) (.slice sad bs.length scap)).put (some (t2 + 1)) (.agg #[.slice sad bs.length scap, .bool false])).put (some bp) (.pointer (some ⟨w1.heap.size, 0, none⟩))) bp = .pointer (some ⟨w1.heap.size, 0, none⟩) := aget_put_same _ _ _ (by simp only [size_put]; omega)
  generalize (((A2.put (some t2) (.slice sad bs.length scap)).put (some (t2 + 1)) (.agg #[.slice sad bs.length scap, .bool false])).put (some bp) (.pointer (some ⟨w1.heap.size, 0, none⟩))) = A3 at *
  have s3 := f3.size.trans s2
  have z3 : aget A3 0 = .pointer (some ⟨b, o, none⟩) := (f3.same 0 (by omega) (.inl (by omega))).trans z2
  have n3 : aget A3 rs = .nilIface := (f3.same rs (by omega) (.inl (by omega))).trans ((f2.same rs (by omega) (.inl (by omega))).trans n1)
  have hbl : b < w1.heap.size := hb1.lt
  have hk2 : Keeps [b] w1 w2 := hk0.mono (by simp)
  have hb2 : Blk w2 b cs T := hb1.keeps hk0 (by simp)
  obtain ⟨x0, hver⟩ := hver
  have hv2 : w2.cell? ⟨b, o + off0, none⟩ = some x0 := by rw [hb2.cell, ← hb1.cell, hv1, hver]
  have hlt2 : o + off0 < cs.length := by
    rw [hb2.cell] at hv2
    exact (List.getElem?_eq_some_iff.1 hv2).1
  have hst0 : RSt gE E [w1.heap.size, b] w2 w1.heap.size b cs T (some bs) := by
    have hglt : gE < w.heap.size := World.block_lt_of_cell? w _ hE
    have hk12 := hk1.trans hk2
    refine ⟨⟨_, hUr ▸ hblk, ?_, hbs⟩, hb2, by simp, by simp, by omega, ?_, ?_, ?_⟩
    · exact ((hs.keeps hk1).openNew (Nat.le_refl _)).keeps (hk2.mono (by simp))
    · intro k hk
      simp only [List.mem_cons, List.not_mem_nil, or_false] at hk
      rcases hk with rfl | rfl
      · exact hblk.lt
      · exact hb2.lt
    · exact (World.cell?_of_block (hk12.block gE hglt (by simpa using hgE))).trans hE
    · have := hk1.size
      simp only [List.mem_cons, List.not_mem_nil, or_false, not_or]
      exact ⟨by omega, hgE⟩
  refine wp_seq (wp_reg ?_)
  refine wl_move z3 ?_
  refine wl_call (R := RdPost (rdInt 2 32768) (fun _ _ v n => v = .int .i16 n) (fun v => v = .int .i16 0) [w1.heap.size, b] w1.heap.size w2 (some bs)) heI ?_ ?_
  · simp only [List.map_toArray, List.map_cons, List.map_nil, aget_eval]
    rw [aget_put_other _ _ _ _ (by omega), p3]
    exact hI [w1.heap.size, b] w1.heap.size w2 (some bs) hst0.rbO hst0.lt hst0.rdr
  rintro en w3 ⟨y, rfl, hr3, hk3, hbad, hgood⟩
  refine ⟨y, rfl, ?_⟩
  have hst3 := hst0.call hr3 hk3
  obtain ⟨ver, st, rfl, hst4, hs1, hs2⟩ : ∃ ver st, y = .int .i16 ver ∧ RSt gE E [w1.heap.size, b] w3 w1.heap.size b cs T st ∧ (∀ n r, rdInt 2 32768 bs = some (n, r) → ver = n ∧ st = some r) ∧ (rdInt 2 32768 bs = none → ver = 0 ∧ st = none) := by
    cases hx : rdInt 2 32768 bs with
    | none =>
      have e : (some bs).bind (rdInt 2 32768) = none := hx
      rw [e] at hst3
      exact ⟨0, none, hbad e, hst3, fun n r h => (by cases h), fun _ => ⟨rfl, rfl⟩⟩
    | some q =>
      obtain ⟨n, r⟩ := q
      have e : (some bs).bind (rdInt 2 32768) = some (n, r) := hx
      rw [e] at hst3
      exact ⟨n, some r, hgood n r e, hst3, fun n' r' h => (by cases h; exact ⟨rfl, rfl⟩), fun h => (by cases h)⟩
  refine wl_nilCheck (ad := ⟨b, o, none⟩) (by rw [aget_put_other _ _ _ _ (by omega)]; exact aget_put_same _ _ _ (by omega)) ?_
  refine wl_fieldAddr hT (aget_put_same _ _ _ (by simp only [size_put]; omega)) ?_
  rw [Addr.add_lit]
  refine wl_store (w' := w3.setCell ⟨b, o + off0, none⟩ (.int .i16 ver)) ?_ ?_
  · rw [aget_eval, aget_eval, aget_put_same _ _ _ (by simp only [size_put]; omega), aget_put_other _ _ _ _ (by omega), aget_put_other _ _ _ _ (by omega), aget_put_same _ _ _ (by simp only [size_put]; omega)]
    exact run_store_blk hUv hst4.blk hlt2 ⟨rfl, rfl⟩
  refine wpList_nil ?_
  simp only [Exit.then]
  have fk : Fr N N N nt A3 ((((A3.put (some tk) (.pointer (some ⟨b, o, none⟩))).put (some (tk + 1)) (.int .i16 ver)).put (some (tk + 2)) (.pointer (some ⟨b, o, none⟩))).put (some (tk + 3)) (.pointer (some ⟨b, o + off0, none⟩))) := ((((Fr.refl ..).put _ _ (by omega)).put _ _ (by omega)).put _ _ (by omega)).put _ _ (by omega)
  generalize ((((A3.put (some tk) (.pointer (some ⟨b, o, none⟩))).put (some (tk + 1)) (.int .i16 ver)).put (some (tk + 2)) (.pointer (some ⟨b, o, none⟩))).put (some (tk + 3)) (.pointer (some ⟨b, o + off0, none⟩))) = A5 at *
  have s5 := fk.size.trans s3
  have z5 : aget A5 0 = .pointer (some ⟨b, o, none⟩) := (fk.same 0 (by omega) (.inl (by omega))).trans z3
  have hst5 := hst4.store (o + off0) (.int .i16 ver)
  have hv5 : (w3.setCell ⟨b, o + off0, none⟩ (.int .i16 ver)).cell? ⟨b, o + off0, none⟩ = some (.int .i16 ver) := hst5.blk.cell_some (by rw [List.getElem?_set_self hlt2])
  have hk5 : Keeps [w1.heap.size, b] w (w3.setCell ⟨b, o + off0, none⟩ (.int .i16 ver)) := ((hk1.trans hk2).mono (by simp)).trans ((keeps_rb hk3).trans (keeps_b w3 _ _))
  refine wp_seq (reg_load (N := N) (t := N) (x0 := nt) (lo := sv) hT hUv s5 z5 (by rw [Addr.add_lit]; exact hv5) ⟨Nat.le_refl _, d5, d6, Nat.le_refl _, d10⟩ fun a4 f4 x4 => ?_)
  refine h a4 _ w1.heap.size _ ver st hs1 hs2 hk1.size (f4.size.trans s5) (f4.defers.trans (fk.defers.trans (f3.defers.trans (f2.defers.trans (f1.defers.trans hAd))))) ?_ hst5 (hFr _ _ hF1) hv5 hk5
  intro q hq
  simp only [List.mem_cons, List.not_mem_nil, or_false] at hq
  rcases hq with rfl | rfl | rfl | rfl | rfl
  · exact (f4.same 0 (by omega) (.inl (by omega))).trans z5
  · exact (f4.same bp (by omega) (.inl (by omega))).trans ((fk.same bp (by omega) (.inl (by omega))).trans p3)
  · exact x4
  · exact (f4.same rs (by omega) (.inl (by omega))).trans ((fk.same rs (by omega) (.inl (by omega))).trans n3)
  · exact (f4.same 2 (by omega) (.inl (by omega))).trans ((fk.same 2 (by omega) (.inl (by omega))).trans ((f3.same 2 (by omega) (.inl (by omega))).trans ((f2.same 2 (by omega) (.inl (by omega))).trans ((f1.same 2 (by omega) (.inl (by omega))).trans hA2))))

theorem rdK_st {fl : Int → Bool} {sch : Sch} {bs : List UInt8} {ver : Int} {st : Option (List UInt8)} (hs1 : ∀ n r, rdInt 2 32768 bs = some (n, r) → ver = n ∧ st = some r) (hs2 : rdInt 2 32768 bs = none → ver = 0 ∧ st = none) :
    rdK fl sch bs = (st.bind (rd ver (fl ver) sch)).map fun q => ((ver, q.1), q.2) := by
  cases hx : rdInt 2 32768 bs with
  | none =>
    obtain ⟨rfl, rfl⟩ := hs2 hx
    exact bind_none hx
  | some q =>
    obtain ⟨n, r⟩ := q
    obtain ⟨rfl, rfl⟩ := hs1 n r hx
    have e : rdK fl sch bs = ((rd ver (fl ver) sch).bind fun v => Pr.pure (ver, v)) r := bind_eq hx
    rw [e]
    unfold Pr.bind
    simp only [Option.bind_some]
    cases rd ver (fl ver) sch r <;> rfl
theorem calls_read_kept {f : Nat} {fn : Func} {rs bp sv s t1 t2 t3 t4 t7 tk FD FI U Tm Uv k r0 r1 r2 r3 r4 r7 rk z1 z2 z3 z4 z5 y1 y2 y3 y4 y5 y6 y7 y8 y9 y10 y11 y12 y13 y18 y19 : Nat} {qk1 qk2 qk3 qk4 qk5 q1 q2 q3 q4 q5 q6 q7 q8 q9 q10 q11 q12 q13 q18 q19 : String} {gk1 gk2 gk3 gk4 gk5 g1 g2 g3 g4 g5 g6 g7 g8 g9 g10 g11 g12 g13 g18 g19 : Array Edge} {at_ atk : Array TypeId} {c : Code}
    {sch : Sch} {b o T off0 n : Nat} {low : Int} {w : World} {src : Value} {bs : List UInt8}
    (hf : P.funcs[f]? = some fn)
    (hbody : fn.body = some ((Code.region r0 #[⟨some rs, .assign (.const .nilIface), y1, q1, g1, none⟩] false).seq
      ((Code.region r1 #[⟨some t1, .move (.tmp 0), y2, q2, g2, none⟩, ⟨some (t1 + 1), .call { callee := .value (.func FD), args := #[.tmp t1], argTypes := at_ }, y3, q3, g3, none⟩] false).seq
      ((Code.region r2 #[⟨some t2, .move (.tmp 1), y4, q4, g4, none⟩, ⟨some (t2 + 1), .build U #[(0, .tmp t2)], y5, q5, g5, none⟩, ⟨some bp, .alloc U, y6, q6, g6, none⟩, ⟨none, .store U (.tmp bp) (.tmp (t2 + 1)), y7, q7, g7, none⟩] false).seq
      ((Code.region rk #[⟨some tk, .move (.tmp 0), z1, qk1, gk1, none⟩, ⟨some (tk + 1), .call { callee := .value (.func FI), args := #[.tmp bp], argTypes := atk }, z2, qk2, gk2, none⟩, ⟨some (tk + 2), .nilCheck (.tmp tk), z3, qk3, gk3, none⟩, ⟨some (tk + 3), .fieldAddr Tm (.tmp (tk + 2)) k, z4, qk4, gk4, none⟩,
        ⟨none, .store Uv (.tmp (tk + 3)) (.tmp (tk + 1)), z5, qk5, gk5, none⟩] false).seq
      ((Code.region r3 #[⟨some t3, .move (.tmp 0), y8, q8, g8, none⟩, ⟨some (t3 + 1), .nilCheck (.tmp t3), y9, q9, g9, none⟩, ⟨some (t3 + 2), .fieldAddr Tm (.tmp (t3 + 1)) k, y10, q10, g10, none⟩,
        ⟨some (t3 + 3), .load Uv (.tmp (t3 + 2)), y11, q11, g11, none⟩, ⟨some sv, .assign (.tmp (t3 + 3)), y12, q12, g12, none⟩] false).seq
      ((Code.region r4 #[⟨some t4, .move (.tmp sv), y13, q13, g13, none⟩] false).seq
      ((Code.region r7 #[⟨some t7, .move (.tmp 0), y18, q18, g18, none⟩, ⟨some s, .assign (.tmp t7), y19, q19, g19, none⟩] false).seq c))))))))
    (hnt : fn.ntmps = nt) (hres : fn.results = #[.tmp rs]) (he : Enters P FD) (heI : Enters P FI) (hI : RdC P FI (rdInt 2 32768) (fun _ _ v n => v = .int .i16 n) (fun v => v = .int .i16 0)) (hFr : ∀ (cs : List Value) (y : Value), Fresh cs o sch → Fresh (cs.set (o + off0) y) o sch) (hT : FieldAt P Tm k off0) (hUv : OneCell P Uv) (hU : ManyCells P U 2) (hUr : U = 118) (hB : ∀ ad n m, P.built U [(0, .slice ad n m)] = some #[.slice ad n m, .bool false])
    (hd : N ≤ t1 ∧ t1 + 1 < nt ∧ N ≤ t2 ∧ t2 + 1 < nt ∧ N ≤ t3 ∧ t3 + 3 < nt ∧ N ≤ tk ∧ tk + 3 < nt ∧ 2 < rs ∧ rs < bp ∧ bp < sv ∧ sv < N ∧ 3 ≤ nt ∧ N ≤ nt) (hd2 : N ≤ t4 ∧ t4 < nt ∧ N ≤ t7 ∧ t7 < nt ∧ sv < s ∧ s < N)
    (hRTm : RTMono RT) (hn : off0 < n) (hlow : low ≤ 0) (hok : ∀ n r, rdInt 2 32768 bs = some (n, r) → low ≤ n) (hc : ∀ ver, hasV low none ver = true → RdR RT P N nt gE E ver false [(sv, .int .i16 ver), (2, .bool false)] (s + 1) N s bp rs c n sch)
    (hver : ∃ x0, w.cell? ⟨b, o + off0, none⟩ = some x0) (hDef : DefT P FD b o T off0 sch w) (hs : RB [b] w src bs) (hbs : bs.length ≤ lim) (hE : w.cell? ⟨gE, 0, none⟩ = some E) (hgE : gE ≠ b) (hb : b < w.heap.size) :
    Calls P f #[.pointer (some ⟨b, o, none⟩), src, .bool false] w (KeptPost RT E (fun _ => false) sch b o off0 bs w) := by
  refine read_headK hf hbody hnt he heI hI hFr hT hUv hU hUr hB hd hver hDef hs hbs hE hgE hb fun a w2 rb cs ver st hs1 hs2 hrb hN hdf hh hst hF hv hk => ?_
  obtain ⟨d1, d2, d3, d4, d5, d6, dk1, dk2, d7, d8, d9, d10, d11, d12⟩ := hd
  obtain ⟨c1, c2, c7, c8, c10, c11⟩ := hd2
  have x0 : aget a 0 = .pointer (some ⟨b, o, none⟩) := hh (0, .pointer (some ⟨b, o, none⟩)) (by simp)
  have x1 : aget a bp = .pointer (some ⟨rb, 0, none⟩) := hh (bp, .pointer (some ⟨rb, 0, none⟩)) (by simp)
  have x2 : aget a sv = .int .i16 ver := hh (sv, .int .i16 ver) (by simp)
  have x3 : aget a 2 = .bool false := hh (2, .bool false) (by simp)
  refine wp_seq (reg_flag (N := N) (t := N) (x0 := nt) (lo := N) hN x2 ⟨Nat.le_refl _, c1, c2, Nat.le_refl _⟩ fun a1 f1 _ => ?_)
  have s1 := f1.size.trans hN
  refine wp_seq (reg_copy (N := N) (t := N) (x0 := nt) (lo := s) s1 ((f1.same 0 (by omega) (.inl (by omega))).trans x0) ⟨Nat.le_refl _, c7, c8, Nat.le_refl _, c11⟩ fun a4 f4 x4 => ?_)
  have hV : hasV low none ver = true := by
    have h0 : low ≤ ver := by
      cases hx : rdInt 2 32768 bs with
      | none =>
        have := (hs2 hx).1
        omega
      | some q =>
        have h1 := (hs1 q.1 q.2 hx).1
        have h2 := hok q.1 q.2 hx
        omega
    simp [hasV, h0]
  have hK := rdK_st (fl := fun _ => false) (sch := sch) hs1 hs2
  refine hc ver hV _ rb b o T a4 w2 cs st _ (f4.size.trans s1) ?_ hst hF fun a' w' k1 k2 k3 k4 k5 => ?_
  rotate_left
  · refine bodyPost_ret (v := aget a' rs) (results_tmp hres _ _ _) (k2.trans (f4.defers.trans (f1.defers.trans hdf))) ⟨?_, (hk.trans k4).close hrb, fun ver' v r hvr => ?_⟩
    · rw [k3, hK]
      cases st.bind (rd ver false sch) <;> rfl
    · rw [hK] at hvr
      cases hx : st.bind (rd ver false sch) with
      | none => rw [hx] at hvr; cases hvr
      | some q =>
        rw [hx] at hvr
        simp only [Option.map_some, Option.some.injEq, Prod.mk.injEq] at hvr
        obtain ⟨⟨rfl, rfl⟩, rfl⟩ := hvr
        obtain ⟨j1, cs', j2, j3⟩ := k5 q.1 q.2 hx
        refine ⟨j1.mono hRTm (by simp), ?_⟩
        rw [j2.cell, j3.out _ (.inl (by omega)), ← hst.blk.cell, hv]
  intro q hq
  simp only [List.mem_cons, List.not_mem_nil, or_false] at hq
  rcases hq with rfl | rfl | rfl | rfl
  · exact x4
  · exact (f4.same bp (by omega) (.inl (by omega))).trans ((f1.same bp (by omega) (.inl (by omega))).trans x1)
  · exact (f4.same sv (by omega) (.inl (by omega))).trans ((f1.same sv (by omega) (.inl (by omega))).trans x2)
  · exact (f4.same 2 (by omega) (.inl (by omega))).trans ((f1.same 2 (by omega) (.inl (by omega))).trans x3)
theorem calls_read_kept_flex {f : Nat} {fn : Func} {rs bp sv sf s t1 t2 t3 t4 t5 t6 t7 tk FD FI U Tm Uv k r0 r1 r2 r3 r4 r5 r6 r7 rk J1 J2 z1 z2 z3 z4 z5 y1 y2 y3 y4 y5 y6 y7 y8 y9 y10 y11 y12 y13 y14 y15 y16 y17 y18 y19 : Nat} {qk1 qk2 qk3 qk4 qk5 q1 q2 q3 q4 q5 q6 q7 q8 q9 q10 q11 q12 q13 q14 q15 q16 q17 q18 q19 : String} {gk1 gk2 gk3 gk4 gk5 g1 g2 g3 g4 g5 g6 g7 g8 g9 g10 g11 g12 g13 g14 g15 g16 g17 g18 g19 : Array Edge} {at_ atk : Array TypeId} {c : Code} {m : Int}
    {sch : Sch} {b o T off0 n : Nat} {low : Int} {w : World} {src : Value} {bs : List UInt8}
    (hf : P.funcs[f]? = some fn)
    (hbody : fn.body = some ((Code.region r0 #[⟨some rs, .assign (.const .nilIface), y1, q1, g1, none⟩] false).seq
      ((Code.region r1 #[⟨some t1, .move (.tmp 0), y2, q2, g2, none⟩, ⟨some (t1 + 1), .call { callee := .value (.func FD), args := #[.tmp t1], argTypes := at_ }, y3, q3, g3, none⟩] false).seq
      ((Code.region r2 #[⟨some t2, .move (.tmp 1), y4, q4, g4, none⟩, ⟨some (t2 + 1), .build U #[(0, .tmp t2)], y5, q5, g5, none⟩, ⟨some bp, .alloc U, y6, q6, g6, none⟩, ⟨none, .store U (.tmp bp) (.tmp (t2 + 1)), y7, q7, g7, none⟩] false).seq
      ((Code.region rk #[⟨some tk, .move (.tmp 0), z1, qk1, gk1, none⟩, ⟨some (tk + 1), .call { callee := .value (.func FI), args := #[.tmp bp], argTypes := atk }, z2, qk2, gk2, none⟩, ⟨some (tk + 2), .nilCheck (.tmp tk), z3, qk3, gk3, none⟩, ⟨some (tk + 3), .fieldAddr Tm (.tmp (tk + 2)) k, z4, qk4, gk4, none⟩,
        ⟨none, .store Uv (.tmp (tk + 3)) (.tmp (tk + 1)), z5, qk5, gk5, none⟩] false).seq
      ((Code.region r3 #[⟨some t3, .move (.tmp 0), y8, q8, g8, none⟩, ⟨some (t3 + 1), .nilCheck (.tmp t3), y9, q9, g9, none⟩, ⟨some (t3 + 2), .fieldAddr Tm (.tmp (t3 + 1)) k, y10, q10, g10, none⟩,
        ⟨some (t3 + 3), .load Uv (.tmp (t3 + 2)), y11, q11, g11, none⟩, ⟨some sv, .assign (.tmp (t3 + 3)), y12, q12, g12, none⟩] false).seq
      ((Code.region r4 #[⟨some t4, .move (.tmp sv), y13, q13, g13, none⟩] false).seq
      ((Code.region r5 #[⟨some t5, .move (.tmp sv), y14, q14, g14, none⟩, ⟨some (t5 + 1), .binOp .geq J1 (.tmp t5) (.const (.int .i16 m)) J2, y15, q15, g15, none⟩, ⟨some sf, .assign (.tmp (t5 + 1)), y16, q16, g16, none⟩] false).seq
      ((Code.region r6 #[⟨some t6, .move (.tmp sf), y17, q17, g17, none⟩] false).seq
      ((Code.region r7 #[⟨some t7, .move (.tmp 0), y18, q18, g18, none⟩, ⟨some s, .assign (.tmp t7), y19, q19, g19, none⟩] false).seq c))))))))))
    (hnt : fn.ntmps = nt) (hres : fn.results = #[.tmp rs]) (he : Enters P FD) (heI : Enters P FI) (hI : RdC P FI (rdInt 2 32768) (fun _ _ v n => v = .int .i16 n) (fun v => v = .int .i16 0)) (hFr : ∀ (cs : List Value) (y : Value), Fresh cs o sch → Fresh (cs.set (o + off0) y) o sch) (hT : FieldAt P Tm k off0) (hUv : OneCell P Uv) (hU : ManyCells P U 2) (hUr : U = 118) (hB : ∀ ad n m, P.built U [(0, .slice ad n m)] = some #[.slice ad n m, .bool false])
    (hd : N ≤ t1 ∧ t1 + 1 < nt ∧ N ≤ t2 ∧ t2 + 1 < nt ∧ N ≤ t3 ∧ t3 + 3 < nt ∧ N ≤ tk ∧ tk + 3 < nt ∧ 2 < rs ∧ rs < bp ∧ bp < sv ∧ sv < N ∧ 3 ≤ nt ∧ N ≤ nt) (hd2 : N ≤ t4 ∧ t4 < nt ∧ N ≤ t5 ∧ t5 + 1 < nt ∧ N ≤ t6 ∧ t6 < nt ∧ N ≤ t7 ∧ t7 < nt ∧ sv < sf ∧ sf < s ∧ s < N)
    (hRTm : RTMono RT) (hn : off0 < n) (hlow : low ≤ 0) (hok : ∀ n r, rdInt 2 32768 bs = some (n, r) → low ≤ n) (hc : ∀ ver, hasV low none ver = true → RdR RT P N nt gE E ver (hasV m none ver) [(sv, .int .i16 ver), (sf, .bool (hasV m none ver)), (2, .bool false)] (s + 1) N s bp rs c n sch)
    (hver : ∃ x0, w.cell? ⟨b, o + off0, none⟩ = some x0) (hDef : DefT P FD b o T off0 sch w) (hs : RB [b] w src bs) (hbs : bs.length ≤ lim) (hE : w.cell? ⟨gE, 0, none⟩ = some E) (hgE : gE ≠ b) (hb : b < w.heap.size) :
    Calls P f #[.pointer (some ⟨b, o, none⟩), src, .bool false] w (KeptPost RT E (fun ver => hasV m none ver) sch b o off0 bs w) := by
  refine read_headK hf hbody hnt he heI hI hFr hT hUv hU hUr hB hd hver hDef hs hbs hE hgE hb fun a w2 rb cs ver st hs1 hs2 hrb hN hdf hh hst hF hv hk => ?_
  obtain ⟨d1, d2, d3, d4, d5, d6, dk1, dk2, d7, d8, d9, d10, d11, d12⟩ := hd
  obtain ⟨c1, c2, c3, c4, c5, c6, c7, c8, c9, c10, c11⟩ := hd2
  have x0 : aget a 0 = .pointer (some ⟨b, o, none⟩) := hh (0, .pointer (some ⟨b, o, none⟩)) (by simp)
  have x1 : aget a bp = .pointer (some ⟨rb, 0, none⟩) := hh (bp, .pointer (some ⟨rb, 0, none⟩)) (by simp)
  have x2 : aget a sv = .int .i16 ver := hh (sv, .int .i16 ver) (by simp)
  have x3 : aget a 2 = .bool false := hh (2, .bool false) (by simp)
  refine wp_seq (reg_flag (N := N) (t := N) (x0 := nt) (lo := N) hN x2 ⟨Nat.le_refl _, c1, c2, Nat.le_refl _⟩ fun a1 f1 _ => ?_)
  have s1 := f1.size.trans hN
  refine wp_seq (reg_cmpv (N := N) (t := N) (x0 := nt) (lo := sf) (b := hasV m none ver) s1 ((f1.same sv (by omega) (.inl (by omega))).trans x2) ⟨Nat.le_refl _, c3, c4, Nat.le_refl _, by omega⟩ (fun w => by rw [run_cmp_i16]; simp [hasV]) fun a2 f2 y2 => ?_)
  have s2 := f2.size.trans s1
  refine wp_seq (reg_flag (N := N) (t := N) (x0 := nt) (lo := N) s2 y2 ⟨Nat.le_refl _, c5, c6, Nat.le_refl _⟩ fun a3 f3 _ => ?_)
  have s3 := f3.size.trans s2
  have f03 : Fr N sf N nt a a3 := ((f1.mono (by omega) (Nat.le_refl _)).trans f2).trans (f3.mono (by omega) (Nat.le_refl _))
  refine wp_seq (reg_copy (N := N) (t := N) (x0 := nt) (lo := s) s3 ((f03.same 0 (by omega) (.inl (by omega))).trans x0) ⟨Nat.le_refl _, c7, c8, Nat.le_refl _, c11⟩ fun a4 f4 x4 => ?_)
  have hV : hasV low none ver = true := by
    have h0 : low ≤ ver := by
      cases hx : rdInt 2 32768 bs with
      | none =>
        have := (hs2 hx).1
        omega
      | some q =>
        have h1 := (hs1 q.1 q.2 hx).1
        have h2 := hok q.1 q.2 hx
        omega
    simp [hasV, h0]
  have hK := rdK_st (fl := fun ver => hasV m none ver) (sch := sch) hs1 hs2
  refine hc ver hV _ rb b o T a4 w2 cs st _ (f4.size.trans s3) ?_ hst hF fun a' w' k1 k2 k3 k4 k5 => ?_
  rotate_left
  · refine bodyPost_ret (v := aget a' rs) (results_tmp hres _ _ _) (k2.trans (f4.defers.trans (f03.defers.trans hdf))) ⟨?_, (hk.trans k4).close hrb, fun ver' v r hvr => ?_⟩
    · rw [k3, hK]
      cases st.bind (rd ver (hasV m none ver) sch) <;> rfl
    · rw [hK] at hvr
      cases hx : st.bind (rd ver (hasV m none ver) sch) with
      | none => rw [hx] at hvr; cases hvr
      | some q =>
        rw [hx] at hvr
        simp only [Option.map_some, Option.some.injEq, Prod.mk.injEq] at hvr
        obtain ⟨⟨rfl, rfl⟩, rfl⟩ := hvr
        obtain ⟨j1, cs', j2, j3⟩ := k5 q.1 q.2 hx
        refine ⟨j1.mono hRTm (by simp), ?_⟩
        rw [j2.cell, j3.out _ (.inl (by omega)), ← hst.blk.cell, hv]
  intro q hq
  simp only [List.mem_cons, List.not_mem_nil, or_false] at hq
  rcases hq with rfl | rfl | rfl | rfl | rfl
  · exact x4
  · exact (f4.same bp (by omega) (.inl (by omega))).trans ((f03.same bp (by omega) (.inl (by omega))).trans x1)
  · exact (f4.same sv (by omega) (.inl (by omega))).trans ((f03.same sv (by omega) (.inl (by omega))).trans x2)
  · exact (f4.same sf (by omega) (.inl (by omega))).trans ((f3.same sf (by omega) (.inl (by omega))).trans y2)
  · exact (f4.same 2 (by omega) (.inl (by omega))).trans ((f03.same 2 (by omega) (.inl (by omega))).trans x3)
end
end Go.Proofs.YtfchajjllhndlaaDoor
