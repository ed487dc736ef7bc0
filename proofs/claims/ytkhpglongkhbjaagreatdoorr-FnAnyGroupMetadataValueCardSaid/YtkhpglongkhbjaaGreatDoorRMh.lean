/- Shared texts of these proofs, laid together by merge.py: Kp, Ke. -/
import Derived.Test.YtkhpglongkhbjaaGreatDoorRMd
import Derived.Test.YtkhpglongkhbjaaGreatDoorRMg
import Derived.Test.YtkhpglongkhbjaaGreatDoorRMe
set_option linter.unusedVariables false
/- Reading of messages that are kept: the version stands ahead, in two octets. -/
namespace Go.Proofs.YtkhpglongkhbjaaGreatDoorR
open Go Go.RowKit
set_option linter.unusedVariables false

section
variable {RT : RTags} {P : Program} {N nt gE : Nat} {E : Value} {K : Slots} {lo t : Nat} {ver : Int} {flex : Bool}
/-- The version, and what is read at it. -/
def rdK (fl : Int → Bool) (sch : Sch) : Pr (Int × GV) := (rdInt 2 32768).bind fun ver => (rd ver (fl ver) sch).bind fun v => .pure (ver, v)
def KeptPost (RT : RTags) (E : Value) (fl : Int → Bool) (sch : Sch) (b o off0 : Nat) (bs : List UInt8) (w : World) (en : Ending) (w' : World) : Prop :=
  en = .returned (if (rdK fl sch bs).isSome then .nilIface else E) ∧ Keeps [b] w w' ∧ ∀ ver v r, rdK fl sch bs = some ((ver, v), r) → Rep RT [] w' ver (fl ver) sch b o v ∧ w'.cell? ⟨b, o + off0, none⟩ = some (.int .i16 ver)
theorem read_headK {f : Nat} {fn : Func} {rs bp sv t1 t2 t3 tk FD FI U Tm Uv k r0 r1 r2 r3 rk z1 z2 z3 z4 z5 y1 y2 y3 y4 y5 y6 y7 y8 y9 y10 y11 y12 : Nat} {qk1 qk2 qk3 qk4 qk5 q1 q2 q3 q4 q5 q6 q7 q8 q9 q10 q11 q12 : String} {gk1 gk2 gk3 gk4 gk5 g1 g2 g3 g4 g5 g6 g7 g8 g9 g10 g11 g12 : Array Edge} {at_ atk : Array TypeId} {c : Code}
    {sch : Sch} {b o T off0 : Nat} {w : World} {src : Value} {bs : List UInt8} {R : Ending → World → Prop}
    (hf : P.funcs[f]? = some fn)
    (hbody : fn.body = some ((Code.region r0 #[⟨some rs, .assign (.const .nilIface), y1, q1, g1, none⟩] false).seq
      ((Code.region r1 #[⟨some t1, .move (.tmp 0), y2, q2, g2, none⟩, ⟨some (t1 + 1), .call { callee := .value (.func FD), args := #[.tmp t1], argTypes := at_ }, y3, q3, g3, none⟩] false).seq
      ((Code.region r2 #[⟨some t2, .move (.tmp 1), y4, q4, g4, none⟩, ⟨some (t2 + 1), .build U #[(0, .tmp t2)], y5, q5, g5, none⟩, ⟨some bp, .alloc U, y6, q6, g6, none⟩, ⟨none, .store U (.tmp bp) (.tmp (t2 + 1)), y7, q7, g7, none⟩] false).seq
      ((Code.region rk #[⟨some tk, .move (.tmp 0), z1, qk1, gk1, none⟩, ⟨some (tk + 1), .call { callee := .value (.func FI), args := #[.tmp bp], argTypes := atk }, z2, qk2, gk2, none⟩, ⟨some (tk + 2), .nilCheck (.tmp tk), z3, qk3, gk3, none⟩, ⟨some (tk + 3), .fieldAddr Tm (.tmp (tk + 2)) k, z4, qk4, gk4, none⟩,
        ⟨none, .store Uv (.tmp (tk + 3)) (.tmp (tk + 1)), z5, qk5, gk5, none⟩] false).seq
      ((Code.region r3 #[⟨some t3, .move (.tmp 0), y8, q8, g8, none⟩, ⟨some (t3 + 1), .nilCheck (.tmp t3), y9, q9, g9, none⟩, ⟨some (t3 + 2), .fieldAddr Tm (.tmp (t3 + 1)) k, y10, q10, g10, none⟩,
        ⟨some (t3 + 3), .load Uv (.tmp (t3 + 2)), y11, q11, g11, none⟩, ⟨some sv, .assign (.tmp (t3 + 3)), y12, q12, g12, none⟩] false).seq c))))))
    (hnt : fn.ntmps = nt) (he : Enters P FD) (heI : Enters P FI) (hI : RdC P FI (rdInt 2 32768) (fun _ _ v n => v = .int .i16 n) (fun v => v = .int .i16 0)) (hFr : ∀ (cs : List Value) (y : Value), Fresh cs o sch → Fresh (cs.set (o + off0) y) o sch) (hT : FieldAt P Tm k off0) (hUv : OneCell P Uv) (hU : ManyCells P U 2) (hUr : U = 70) (hB : ∀ ad n m, P.built U [(0, .slice ad n m)] = some #[.slice ad n m, .bool false])
    (hd : N ≤ t1 ∧ t1 + 1 < nt ∧ N ≤ t2 ∧ t2 + 1 < nt ∧ N ≤ t3 ∧ t3 + 3 < nt ∧ N ≤ tk ∧ tk + 3 < nt ∧ 2 < rs ∧ rs < bp ∧ bp < sv ∧ sv < N ∧ 3 ≤ nt ∧ N ≤ nt)
    (hver : ∃ x0, w.cell? ⟨b, o + off0, none⟩ = some x0) (hDef : DefT P FD b o T off0 sch w) (hs : RB [b] w src bs) (hbs : bs.length ≤ lim) (hE : w.cell? ⟨gE, 0, none⟩ = some E) (hgE : gE ≠ b) (hb : b < w.heap.size)
    (h : ∀ a w2 rb cs ver st, (∀ n r, rdInt 2 32768 bs = some (n, r) → ver = n ∧ st = some r) → (rdInt 2 32768 bs = none → ver = 0 ∧ st = none) → w.heap.size ≤ rb → a.tmps.size = nt → a.defers = [] → Holds [(0, .pointer (some ⟨b, o, none⟩)), (bp, .pointer (some ⟨rb, 0, none⟩)), (sv, .int .i16 ver), (rs, .nilIface), (2, .bool false)] a → RSt gE E [rb, b] w2 rb b cs T st → Fresh cs o sch → w2.cell? ⟨b, o + off0, none⟩ = some (.int .i16 ver) → Keeps [rb, b] w w2 → c.wp P (bodyPost P fn R) a w2) :
    Calls P f #[.pointer (some ⟨b, o, none⟩), src, .bool false] w R := by
  obtain ⟨d1, d2, d3, d4, d5, d6, dk1, dk2, d7, d8, d9, d10, d11, d12⟩ := hd
  obtain ⟨sad, scap, rfl, -⟩ : ∃ a cap, src = .slice a bs.length cap ∧ True := by obtain ⟨a, cap, h, -⟩ := hs; exact ⟨a, cap, h, trivial⟩
  refine calls_of_wp hf hbody ?_
  rw [hnt]
  have hsz : (#[Value.pointer (some ⟨b, o, none⟩), .slice sad bs.length scap, .bool false] ++ Array.replicate (nt - (#[Value.pointer (some ⟨b, o, none⟩), .slice sad bs.length scap, .bool false]).size) undef).size = nt := by simp; omega
  generalize hA : ({ tmps := #[Value.pointer (some ⟨b, o, none⟩), .slice sad bs.length scap, .bool false] ++ Array.replicate (nt - (#[Value.pointer (some ⟨b, o, none⟩), .slice sad bs.length scap, .bool false]).size) undef, defers := [] } : Act) = A
  have hAs : A.tmps.size = nt := by rw [← hA]; exact hsz
  have hA0 : aget A 0 = .pointer (some ⟨b, o, none⟩) := by rw [← hA]; simp [aget, Array.getD_eq_getD_getElem?, Array.getElem?_append]
  have hA1 : aget A 1 = .slice sad bs.length scap := by rw [← hA]; simp [aget, Array.getD_eq_getD_getElem?, Array.getElem?_append]
  have hA2 : aget A 2 = .bool false := by rw [← hA]; simp [aget, Array.getD_eq_getD_getElem?, Array.getElem?_append]
  have hAd : A.defers = [] := by rw [← hA]
  clear hA hsz
  refine wp_seq (wp_reg ?_)
  refine wl_assign_c ?_
  refine wpList_nil ?_
  simp only [Exit.then]
  have f1 : Fr N rs N nt A (A.put (some rs) .nilIface) := (Fr.refl ..).put _ _ (by omega)
  have n1 : aget (A.put (some rs) .nilIface) rs = .nilIface := aget_put_same _ _ _ (by omega)
  generalize A.put (some rs) .nilIface = A1 at *
  have s1 := f1.size.trans hAs
  have z1 : aget A1 0 = .pointer (some ⟨b, o, none⟩) := (f1.same 0 (by omega) (.inl (by omega))).trans hA0
  refine wp_seq (wp_reg ?_)
  refine wl_move z1 ?_
  refine wl_call (R := fun en w' => ∃ cs', en = .returned (.tuple #[]) ∧ Blk w' b cs' T ∧ Keeps [b] w w' ∧ Fresh cs' o sch ∧ w'.cell? ⟨b, o + off0, none⟩ = w.cell? ⟨b, o + off0, none⟩) he ?_ ?_
  · simp only [List.map_toArray, List.map_cons, List.map_nil, aget_eval]
    rw [aget_put_same _ _ _ (by omega)]
    exact hDef
  rintro en w1 ⟨cs, rfl, hb1, hk1, hF1, hv1⟩
  refine ⟨_, rfl, wpList_nil ?_⟩
  simp only [Exit.then]
  have f2 : Fr N N N nt A1 ((A1.put (some t1) (.pointer (some ⟨b, o, none⟩))).put (some (t1 + 1)) (.tuple #[])) := ((Fr.refl ..).put _ _ (by omega)).put _ _ (by omega)
  generalize ((A1.put (some t1) (.pointer (some ⟨b, o, none⟩))).put (some (t1 + 1)) (.tuple #[])) = A2 at *
  have s2 := f2.size.trans s1
  have z2 : aget A2 0 = .pointer (some ⟨b, o, none⟩) := (f2.same 0 (by omega) (.inl (by omega))).trans z1
  have v2 : aget A2 1 = .slice sad bs.length scap := (f2.same 1 (by omega) (.inl (by omega))).trans ((f1.same 1 (by omega) (.inl (by omega))).trans hA1)
  refine wp_seq (wp_reg ?_)
  refine wl_move v2 ?_
  refine wl_value (v := .agg #[.slice sad bs.length scap, .bool false]) (w' := w1) rfl ?_ ?_
  · have e1 : (A2.put (some t2) (.slice sad bs.length scap)).eval (.tmp t2) = .slice sad bs.length scap := aget_put_same _ _ _ (by omega)
    have e2 := run_build (P := P) w1 U #[(0, .slice sad bs.length scap)] _ (hB sad bs.length scap)
    simp [execOp, e1, e2]
  obtain ⟨z, hz, hza⟩ := run_alloc_many (P := P) hU w1
  refine wl_value (v := .pointer (some ⟨w1.heap.size, 0, none⟩)) (w' := w1.alloc (.cells z U)) rfl (by simp [execOp, hza]) ?_
  have hg : (w1.alloc (.cells z U)).heap[w1.heap.size]? = some (.cells z U (0, 0)) := heap_alloc_new w1 _
  refine wl_store (w' := (w1.alloc (.cells z U)).setRow w1.heap.size #[.slice sad bs.length scap, .bool false]) ?_ ?_
  · rw [aget_eval, aget_eval, aget_put_same _ _ _ (by simp only [size_put]; omega), aget_put_other _ _ _ (t2 + 1) (by omega), aget_put_same _ _ _ (by simp only [size_put]; omega)]
    exact run_store_many (P := P) hU hg hz (l := [.slice sad bs.length scap, .bool false]) rfl (by simp [Value.oneCell'])
  refine wpList_nil ?_
  simp only [Exit.then]
  have hblk : Blk ((w1.alloc (.cells z U)).setRow w1.heap.size #[.slice sad bs.length scap, .bool false]) w1.heap.size [.slice sad bs.length scap, .bool false] U := setRow_heap _ _ _ _ _ _ hg
  have hk0 : Keeps [] w1 ((w1.alloc (.cells z U)).setRow w1.heap.size #[.slice sad bs.length scap, .bool false]) := by
    exact Keeps.of_below (below_setRow (Below.alloc (Below.refl w1.heap.size w1) (Nat.le_refl _) (.cells z U)) (Nat.le_refl _) _) (Nat.le_refl _)
  generalize ((w1.alloc (.cells z U)).setRow w1.heap.size #[.slice sad bs.length scap, .bool false]) = w2 at *
  have f3 : Fr N bp N nt A2 (((A2.put (some t2) (.slice sad bs.length scap)).put (some (t2 + 1)) (.agg #[.slice sad bs.length scap, .bool false])).put (some bp) (.pointer (some ⟨w1.heap.size, 0, none⟩))) := (((Fr.refl ..).put _ _ (by omega)).put _ _ (by omega)).put _ _ (by omega)
  have p3 : aget (((A2.put (some t2) (.slice sad bs.length scap)).put (some (t2 + 1)) (.agg #[.slice sad bs.length scap, .bool false])).put (some bp) (.pointer (some ⟨w1.heap.size, 0, none⟩))) bp = .pointer (some ⟨w1.heap.size, 0, none⟩) := aget_put_same _ _ _ (by simp only [size_put]; omega)
  generalize (((A2.put (some t2) (.slice sad bs.length scap)).put (some (t2 + 1)) (.agg #[.slice sad bs.length scap, .bool false])).put (some bp) (.pointer (some ⟨w1.heap.size, 0, none⟩))) = A3 at *
  have s3 := f3.size.trans s2
  have z3 : aget A3 0 = .pointer (some ⟨b, o, none⟩) := (f3.same 0 (by omega) (.inl (by omega))).trans z2
  have n3 : aget A3 rs = .nilIface := (f3.same rs (by omega) (.inl (by omega))).trans ((f2.same rs (by omega) (.inl (by omega))).trans n1)
  have hbl : b < w1.heap.size := hb1.lt
  have hk2 : Keeps [b] w1 w2 := hk0.mono (by simp)
  have hb2 : Blk w2 b cs T := hb1.keeps hk0 (by simp)
  obtain ⟨x0, hver⟩ := hver
  have hv2 : w2.cell? ⟨b, o + off0, none⟩ = some x0 := by rw [hb2.cell, ← hb1.cell, hv1, hver]
  have hlt2 : o + off0 < cs.length := by
    rw [hb2.cell] at hv2
    exact (List.getElem?_eq_some_iff.1 hv2).1
  have hst0 : RSt gE E [w1.heap.size, b] w2 w1.heap.size b cs T (some bs) := by
    have hglt : gE < w.heap.size := World.block_lt_of_cell? w _ hE
    have hk12 := hk1.trans hk2
    refine ⟨⟨_, hUr ▸ hblk, ?_, hbs⟩, hb2, by simp, by simp, by omega, ?_, ?_, ?_⟩
    · exact ((hs.keeps hk1).openNew (Nat.le_refl _)).keeps (hk2.mono (by simp))
    · intro k hk
      simp only [List.mem_cons, List.not_mem_nil, or_false] at hk
      rcases hk with rfl | rfl
      · exact hblk.lt
      · exact hb2.lt
    · exact (World.cell?_of_block (hk12.block gE hglt (by simpa using hgE))).trans hE
    · have := hk1.size
      simp only [List.mem_cons, List.not_mem_nil, or_false, not_or]
      exact ⟨by omega, hgE⟩
  refine wp_seq (wp_reg ?_)
  refine wl_move z3 ?_
  refine wl_call (R := RdPost (rdInt 2 32768) (fun _ _ v n => v = .int .i16 n) (fun v => v = .int .i16 0) [w1.heap.size, b] w1.heap.size w2 (some bs)) heI ?_ ?_
  · simp only [List.map_toArray, List.map_cons, List.map_nil, aget_eval]
    rw [aget_put_other _ _ _ _ (by omega), p3]
    exact hI [w1.heap.size, b] w1.heap.size w2 (some bs) hst0.rbO hst0.lt hst0.rdr
  rintro en w3 ⟨y, rfl, hr3, hk3, hbad, hgood⟩
  refine ⟨y, rfl, ?_⟩
  have hst3 := hst0.call hr3 hk3
  obtain ⟨ver, st, rfl, hst4, hs1, hs2⟩ : ∃ ver st, y = .int .i16 ver ∧ RSt gE E [w1.heap.size, b] w3 w1.heap.size b cs T st ∧ (∀ n r, rdInt 2 32768 bs = some (n, r) → ver = n ∧ st = some r) ∧ (rdInt 2 32768 bs = none → ver = 0 ∧ st = none) := by
    cases hx : rdInt 2 32768 bs with
    | none =>
      have e : (some bs).bind (rdInt 2 32768) = none := hx
      rw [e] at hst3
      exact ⟨0, none, hbad e, hst3, fun n r h => (by cases h), fun _ => ⟨rfl, rfl⟩⟩
    | some q =>
      obtain ⟨n, r⟩ := q
      have e : (some bs).bind (rdInt 2 32768) = some (n, r) := hx
      rw [e] at hst3
      exact ⟨n, some r, hgood n r e, hst3, fun n' r' h => (by cases h; exact ⟨rfl, rfl⟩), fun h => (by cases h)⟩
  refine wl_nilCheck (ad := ⟨b, o, none⟩) (by rw [aget_put_other _ _ _ _ (by omega)]; exact aget_put_same _ _ _ (by omega)) ?_
  refine wl_fieldAddr hT (aget_put_same _ _ _ (by simp only [size_put]; omega)) ?_
  rw [Addr.add_lit]
  refine wl_store (w' := w3.setCell ⟨b, o + off0, none⟩ (.int .i16 ver)) ?_ ?_
  · rw [aget_eval, aget_eval, aget_put_same _ _ _ (by simp only [size_put]; omega), aget_put_other _ _ _ _ (by omega), aget_put_other _ _ _ _ (by omega), aget_put_same _ _ _ (by simp only [size_put]; omega)]
    exact run_store_blk hUv hst4.blk hlt2 ⟨rfl, rfl⟩
  refine wpList_nil ?_
  simp only [Exit.then]
  have fk : Fr N N N nt A3 ((((A3.put (some tk) (.pointer (some ⟨b, o, none⟩))).put (some (tk + 1)) (.int .i16 ver)).put (some (tk + 2)) (.pointer (some ⟨b, o, none⟩))).put (some (tk + 3)) (.pointer (some ⟨b, o + off0, none⟩))) := ((((Fr.refl ..).put _ _ (by omega)).put _ _ (by omega)).put _ _ (by omega)).put _ _ (by omega)
  generalize ((((A3.put (some tk) (.pointer (some ⟨b, o, none⟩))).put (some (tk + 1)) (.int .i16 ver)).put (some (tk + 2)) (.pointer (some ⟨b, o, none⟩))).put (some (tk + 3)) (.pointer (some ⟨b, o + off0, none⟩))) = A5 at *
  have s5 := fk.size.trans s3
  have z5 : aget A5 0 = .pointer (some ⟨b, o, none⟩) := (fk.same 0 (by omega) (.inl (by omega))).trans z3
  have hst5 := hst4.store (o + off0) (.int .i16 ver)
  have hv5 : (w3.setCell ⟨b, o + off0, none⟩ (.int .i16 ver)).cell? ⟨b, o + off0, none⟩ = some (.int .i16 ver) := hst5.blk.cell_some (by rw [List.getElem?_set_self hlt2])
  have hk5 : Keeps [w1.heap.size, b] w (w3.setCell ⟨b, o + off0, none⟩ (.int .i16 ver)) := ((hk1.trans hk2).mono (by simp)).trans ((keeps_rb hk3).trans (keeps_b w3 _ _))
  refine wp_seq (reg_load (N := N) (t := N) (x0 := nt) (lo := sv) hT hUv s5 z5 (by rw [Addr.add_lit]; exact hv5) ⟨Nat.le_refl _, d5, d6, Nat.le_refl _, d10⟩ fun a4 f4 x4 => ?_)
  refine h a4 _ w1.heap.size _ ver st hs1 hs2 hk1.size (f4.size.trans s5) (f4.defers.trans (fk.defers.trans (f3.defers.trans (f2.defers.trans (f1.defers.trans hAd))))) ?_ hst5 (hFr _ _ hF1) hv5 hk5
  intro q hq
  simp only [List.mem_cons, List.not_mem_nil, or_false] at hq
  rcases hq with rfl | rfl | rfl | rfl | rfl
  · exact (f4.same 0 (by omega) (.inl (by omega))).trans z5
  · exact (f4.same bp (by omega) (.inl (by omega))).trans ((fk.same bp (by omega) (.inl (by omega))).trans p3)
  · exact x4
  · exact (f4.same rs (by omega) (.inl (by omega))).trans ((fk.same rs (by omega) (.inl (by omega))).trans n3)
  · exact (f4.same 2 (by omega) (.inl (by omega))).trans ((fk.same 2 (by omega) (.inl (by omega))).trans ((f3.same 2 (by omega) (.inl (by omega))).trans ((f2.same 2 (by omega) (.inl (by omega))).trans ((f1.same 2 (by omega) (.inl (by omega))).trans hA2))))

theorem rdK_st {fl : Int → Bool} {sch : Sch} {bs : List UInt8} {ver : Int} {st : Option (List UInt8)} (hs1 : ∀ n r, rdInt 2 32768 bs = some (n, r) → ver = n ∧ st = some r) (hs2 : rdInt 2 32768 bs = none → ver = 0 ∧ st = none) :
    rdK fl sch bs = (st.bind (rd ver (fl ver) sch)).map fun q => ((ver, q.1), q.2) := by
  cases hx : rdInt 2 32768 bs with
  | none =>
    obtain ⟨rfl, rfl⟩ := hs2 hx
    exact bind_none hx
  | some q =>
    obtain ⟨n, r⟩ := q
    obtain ⟨rfl, rfl⟩ := hs1 n r hx
    have e : rdK fl sch bs = ((rd ver (fl ver) sch).bind fun v => Pr.pure (ver, v)) r := bind_eq hx
    rw [e]
    unfold Pr.bind
    simp only [Option.bind_some]
    cases rd ver (fl ver) sch r <;> rfl
theorem calls_read_kept {f : Nat} {fn : Func} {rs bp sv s t1 t2 t3 t4 t7 tk FD FI U Tm Uv k r0 r1 r2 r3 r4 r7 rk z1 z2 z3 z4 z5 y1 y2 y3 y4 y5 y6 y7 y8 y9 y10 y11 y12 y13 y18 y19 : Nat} {qk1 qk2 qk3 qk4 qk5 q1 q2 q3 q4 q5 q6 q7 q8 q9 q10 q11 q12 q13 q18 q19 : String} {gk1 gk2 gk3 gk4 gk5 g1 g2 g3 g4 g5 g6 g7 g8 g9 g10 g11 g12 g13 g18 g19 : Array Edge} {at_ atk : Array TypeId} {c : Code}
    {sch : Sch} {b o T off0 n : Nat} {low : Int} {w : World} {src : Value} {bs : List UInt8}
    (hf : P.funcs[f]? = some fn)
    (hbody : fn.body = some ((Code.region r0 #[⟨some rs, .assign (.const .nilIface), y1, q1, g1, none⟩] false).seq
      ((Code.region r1 #[⟨some t1, .move (.tmp 0), y2, q2, g2, none⟩, ⟨some (t1 + 1), .call { callee := .value (.func FD), args := #[.tmp t1], argTypes := at_ }, y3, q3, g3, none⟩] false).seq
      ((Code.region r2 #[⟨some t2, .move (.tmp 1), y4, q4, g4, none⟩, ⟨some (t2 + 1), .build U #[(0, .tmp t2)], y5, q5, g5, none⟩, ⟨some bp, .alloc U, y6, q6, g6, none⟩, ⟨none, .store U (.tmp bp) (.tmp (t2 + 1)), y7, q7, g7, none⟩] false).seq
      ((Code.region rk #[⟨some tk, .move (.tmp 0), z1, qk1, gk1, none⟩, ⟨some (tk + 1), .call { callee := .value (.func FI), args := #[.tmp bp], argTypes := atk }, z2, qk2, gk2, none⟩, ⟨some (tk + 2), .nilCheck (.tmp tk), z3, qk3, gk3, none⟩, ⟨some (tk + 3), .fieldAddr Tm (.tmp (tk + 2)) k, z4, qk4, gk4, none⟩,
        ⟨none, .store Uv (.tmp (tk + 3)) (.tmp (tk + 1)), z5, qk5, gk5, none⟩] false).seq
      ((Code.region r3 #[⟨some t3, .move (.tmp 0), y8, q8, g8, none⟩, ⟨some (t3 + 1), .nilCheck (.tmp t3), y9, q9, g9, none⟩, ⟨some (t3 + 2), .fieldAddr Tm (.tmp (t3 + 1)) k, y10, q10, g10, none⟩,
        ⟨some (t3 + 3), .load Uv (.tmp (t3 + 2)), y11, q11, g11, none⟩, ⟨some sv, .assign (.tmp (t3 + 3)), y12, q12, g12, none⟩] false).seq
      ((Code.region r4 #[⟨some t4, .move (.tmp sv), y13, q13, g13, none⟩] false).seq
      ((Code.region r7 #[⟨some t7, .move (.tmp 0), y18, q18, g18, none⟩, ⟨some s, .assign (.tmp t7), y19, q19, g19, none⟩] false).seq c))))))))
    (hnt : fn.ntmps = nt) (hres : fn.results = #[.tmp rs]) (he : Enters P FD) (heI : Enters P FI) (hI : RdC P FI (rdInt 2 32768) (fun _ _ v n => v = .int .i16 n) (fun v => v = .int .i16 0)) (hFr : ∀ (cs : List Value) (y : Value), Fresh cs o sch → Fresh (cs.set (o + off0) y) o sch) (hT : FieldAt P Tm k off0) (hUv : OneCell P Uv) (hU : ManyCells P U 2) (hUr : U = 70) (hB : ∀ ad n m, P.built U [(0, .slice ad n m)] = some #[.slice ad n m, .bool false])
    (hd : N ≤ t1 ∧ t1 + 1 < nt ∧ N ≤ t2 ∧ t2 + 1 < nt ∧ N ≤ t3 ∧ t3 + 3 < nt ∧ N ≤ tk ∧ tk + 3 < nt ∧ 2 < rs ∧ rs < bp ∧ bp < sv ∧ sv < N ∧ 3 ≤ nt ∧ N ≤ nt) (hd2 : N ≤ t4 ∧ t4 < nt ∧ N ≤ t7 ∧ t7 < nt ∧ sv < s ∧ s < N)
    (hRTm : RTMono RT) (hn : off0 < n) (hlow : low ≤ 0) (hok : ∀ n r, rdInt 2 32768 bs = some (n, r) → low ≤ n) (hc : ∀ ver, hasV low none ver = true → RdR RT P N nt gE E ver false [(sv, .int .i16 ver), (2, .bool false)] (s + 1) N s bp rs c n sch)
    (hver : ∃ x0, w.cell? ⟨b, o + off0, none⟩ = some x0) (hDef : DefT P FD b o T off0 sch w) (hs : RB [b] w src bs) (hbs : bs.length ≤ lim) (hE : w.cell? ⟨gE, 0, none⟩ = some E) (hgE : gE ≠ b) (hb : b < w.heap.size) :
    Calls P f #[.pointer (some ⟨b, o, none⟩), src, .bool false] w (KeptPost RT E (fun _ => false) sch b o off0 bs w) := by
  refine read_headK hf hbody hnt he heI hI hFr hT hUv hU hUr hB hd hver hDef hs hbs hE hgE hb fun a w2 rb cs ver st hs1 hs2 hrb hN hdf hh hst hF hv hk => ?_
  obtain ⟨d1, d2, d3, d4, d5, d6, dk1, dk2, d7, d8, d9, d10, d11, d12⟩ := hd
  obtain ⟨c1, c2, c7, c8, c10, c11⟩ := hd2
  have x0 : aget a 0 = .pointer (some ⟨b, o, none⟩) := hh (0, .pointer (some ⟨b, o, none⟩)) (by simp)
  have x1 : aget a bp = .pointer (some ⟨rb, 0, none⟩) := hh (bp, .pointer (some ⟨rb, 0, none⟩)) (by simp)
  have x2 : aget a sv = .int .i16 ver := hh (sv, .int .i16 ver) (by simp)
  have x3 : aget a 2 = .bool false := hh (2, .bool false) (by simp)
  refine wp_seq (reg_flag (N := N) (t := N) (x0 := nt) (lo := N) hN x2 ⟨Nat.le_refl _, c1, c2, Nat.le_refl _⟩ fun a1 f1 _ => ?_)
  have s1 := f1.size.trans hN
  refine wp_seq (reg_copy (N := N) (t := N) (x0 := nt) (lo := s) s1 ((f1.same 0 (by omega) (.inl (by omega))).trans x0) ⟨Nat.le_refl _, c7, c8, Nat.le_refl _, c11⟩ fun a4 f4 x4 => ?_)
  have hV : hasV low none ver = true := by
    have h0 : low ≤ ver := by
      cases hx : rdInt 2 32768 bs with
      | none =>
        have := (hs2 hx).1
        omega
      | some q =>
        have h1 := (hs1 q.1 q.2 hx).1
        have h2 := hok q.1 q.2 hx
        omega
    simp [hasV, h0]
  have hK := rdK_st (fl := fun _ => false) (sch := sch) hs1 hs2
  refine hc ver hV _ rb b o T a4 w2 cs st _ (f4.size.trans s1) ?_ hst hF fun a' w' k1 k2 k3 k4 k5 => ?_
  rotate_left
  · refine bodyPost_ret (v := aget a' rs) (results_tmp hres _ _ _) (k2.trans (f4.defers.trans (f1.defers.trans hdf))) ⟨?_, (hk.trans k4).close hrb, fun ver' v r hvr => ?_⟩
    · rw [k3, hK]
      cases st.bind (rd ver false sch) <;> rfl
    · rw [hK] at hvr
      cases hx : st.bind (rd ver false sch) with
      | none => rw [hx] at hvr; cases hvr
      | some q =>
        rw [hx] at hvr
        simp only [Option.map_some, Option.some.injEq, Prod.mk.injEq] at hvr
        obtain ⟨⟨rfl, rfl⟩, rfl⟩ := hvr
        obtain ⟨j1, cs', j2, j3⟩ := k5 q.1 q.2 hx
        refine ⟨j1.mono hRTm (by simp), ?_⟩
        rw [j2.cell, j3.out _ (.inl (by omega)), ← hst.blk.cell, hv]
  intro q hq
  simp only [List.mem_cons, List.not_mem_nil, or_false] at hq
  rcases hq with rfl | rfl | rfl | rfl
  · exact x4
  · exact (f4.same bp (by omega) (.inl (by omega))).trans ((f1.same bp (by omega) (.inl (by omega))).trans x1)
  · exact (f4.same sv (by omega) (.inl (by omega))).trans ((f1.same sv (by omega) (.inl (by omega))).trans x2)
  · exact (f4.same 2 (by omega) (.inl (by omega))).trans ((f1.same 2 (by omega) (.inl (by omega))).trans x3)
theorem calls_read_kept_flex {f : Nat} {fn : Func} {rs bp sv sf s t1 t2 t3 t4 t5 t6 t7 tk FD FI U Tm Uv k r0 r1 r2 r3 r4 r5 r6 r7 rk J1 J2 z1 z2 z3 z4 z5 y1 y2 y3 y4 y5 y6 y7 y8 y9 y10 y11 y12 y13 y14 y15 y16 y17 y18 y19 : Nat} {qk1 qk2 qk3 qk4 qk5 q1 q2 q3 q4 q5 q6 q7 q8 q9 q10 q11 q12 q13 q14 q15 q16 q17 q18 q19 : String} {gk1 gk2 gk3 gk4 gk5 g1 g2 g3 g4 g5 g6 g7 g8 g9 g10 g11 g12 g13 g14 g15 g16 g17 g18 g19 : Array Edge} {at_ atk : Array TypeId} {c : Code} {m : Int}
    {sch : Sch} {b o T off0 n : Nat} {low : Int} {w : World} {src : Value} {bs : List UInt8}
    (hf : P.funcs[f]? = some fn)
    (hbody : fn.body = some ((Code.region r0 #[⟨some rs, .assign (.const .nilIface), y1, q1, g1, none⟩] false).seq
      ((Code.region r1 #[⟨some t1, .move (.tmp 0), y2, q2, g2, none⟩, ⟨some (t1 + 1), .call { callee := .value (.func FD), args := #[.tmp t1], argTypes := at_ }, y3, q3, g3, none⟩] false).seq
      ((Code.region r2 #[⟨some t2, .move (.tmp 1), y4, q4, g4, none⟩, ⟨some (t2 + 1), .build U #[(0, .tmp t2)], y5, q5, g5, none⟩, ⟨some bp, .alloc U, y6, q6, g6, none⟩, ⟨none, .store U (.tmp bp) (.tmp (t2 + 1)), y7, q7, g7, none⟩] false).seq
      ((Code.region rk #[⟨some tk, .move (.tmp 0), z1, qk1, gk1, none⟩, ⟨some (tk + 1), .call { callee := .value (.func FI), args := #[.tmp bp], argTypes := atk }, z2, qk2, gk2, none⟩, ⟨some (tk + 2), .nilCheck (.tmp tk), z3, qk3, gk3, none⟩, ⟨some (tk + 3), .fieldAddr Tm (.tmp (tk + 2)) k, z4, qk4, gk4, none⟩,
        ⟨none, .store Uv (.tmp (tk + 3)) (.tmp (tk + 1)), z5, qk5, gk5, none⟩] false).seq
      ((Code.region r3 #[⟨some t3, .move (.tmp 0), y8, q8, g8, none⟩, ⟨some (t3 + 1), .nilCheck (.tmp t3), y9, q9, g9, none⟩, ⟨some (t3 + 2), .fieldAddr Tm (.tmp (t3 + 1)) k, y10, q10, g10, none⟩,
        ⟨some (t3 + 3), .load Uv (.tmp (t3 + 2)), y11, q11, g11, none⟩, ⟨some sv, .assign (.tmp (t3 + 3)), y12, q12, g12, none⟩] false).seq
      ((Code.region r4 #[⟨some t4, .move (.tmp sv), y13, q13, g13, none⟩] false).seq
      ((Code.region r5 #[⟨some t5, .move (.tmp sv), y14, q14, g14, none⟩, ⟨some (t5 + 1), .binOp .geq J1 (.tmp t5) (.const (.int .i16 m)) J2, y15, q15, g15, none⟩, ⟨some sf, .assign (.tmp (t5 + 1)), y16, q16, g16, none⟩] false).seq
      ((Code.region r6 #[⟨some t6, .move (.tmp sf), y17, q17, g17, none⟩] false).seq
      ((Code.region r7 #[⟨some t7, .move (.tmp 0), y18, q18, g18, none⟩, ⟨some s, .assign (.tmp t7), y19, q19, g19, none⟩] false).seq c))))))))))
    (hnt : fn.ntmps = nt) (hres : fn.results = #[.tmp rs]) (he : Enters P FD) (heI : Enters P FI) (hI : RdC P FI (rdInt 2 32768) (fun _ _ v n => v = .int .i16 n) (fun v => v = .int .i16 0)) (hFr : ∀ (cs : List Value) (y : Value), Fresh cs o sch → Fresh (cs.set (o + off0) y) o sch) (hT : FieldAt P Tm k off0) (hUv : OneCell P Uv) (hU : ManyCells P U 2) (hUr : U = 70) (hB : ∀ ad n m, P.built U [(0, .slice ad n m)] = some #[.slice ad n m, .bool false])
    (hd : N ≤ t1 ∧ t1 + 1 < nt ∧ N ≤ t2 ∧ t2 + 1 < nt ∧ N ≤ t3 ∧ t3 + 3 < nt ∧ N ≤ tk ∧ tk + 3 < nt ∧ 2 < rs ∧ rs < bp ∧ bp < sv ∧ sv < N ∧ 3 ≤ nt ∧ N ≤ nt) (hd2 : N ≤ t4 ∧ t4 < nt ∧ N ≤ t5 ∧ t5 + 1 < nt ∧ N ≤ t6 ∧ t6 < nt ∧ N ≤ t7 ∧ t7 < nt ∧ sv < sf ∧ sf < s ∧ s < N)
    (hRTm : RTMono RT) (hn : off0 < n) (hlow : low ≤ 0) (hok : ∀ n r, rdInt 2 32768 bs = some (n, r) → low ≤ n) (hc : ∀ ver, hasV low none ver = true → RdR RT P N nt gE E ver (hasV m none ver) [(sv, .int .i16 ver), (sf, .bool (hasV m none ver)), (2, .bool false)] (s + 1) N s bp rs c n sch)
    (hver : ∃ x0, w.cell? ⟨b, o + off0, none⟩ = some x0) (hDef : DefT P FD b o T off0 sch w) (hs : RB [b] w src bs) (hbs : bs.length ≤ lim) (hE : w.cell? ⟨gE, 0, none⟩ = some E) (hgE : gE ≠ b) (hb : b < w.heap.size) :
    Calls P f #[.pointer (some ⟨b, o, none⟩), src, .bool false] w (KeptPost RT E (fun ver => hasV m none ver) sch b o off0 bs w) := by
  refine read_headK hf hbody hnt he heI hI hFr hT hUv hU hUr hB hd hver hDef hs hbs hE hgE hb fun a w2 rb cs ver st hs1 hs2 hrb hN hdf hh hst hF hv hk => ?_
  obtain ⟨d1, d2, d3, d4, d5, d6, dk1, dk2, d7, d8, d9, d10, d11, d12⟩ := hd
  obtain ⟨c1, c2, c3, c4, c5, c6, c7, c8, c9, c10, c11⟩ := hd2
  have x0 : aget a 0 = .pointer (some ⟨b, o, none⟩) := hh (0, .pointer (some ⟨b, o, none⟩)) (by simp)
  have x1 : aget a bp = .pointer (some ⟨rb, 0, none⟩) := hh (bp, .pointer (some ⟨rb, 0, none⟩)) (by simp)
  have x2 : aget a sv = .int .i16 ver := hh (sv, .int .i16 ver) (by simp)
  have x3 : aget a 2 = .bool false := hh (2, .bool false) (by simp)
  refine wp_seq (reg_flag (N := N) (t := N) (x0 := nt) (lo := N) hN x2 ⟨Nat.le_refl _, c1, c2, Nat.le_refl _⟩ fun a1 f1 _ => ?_)
  have s1 := f1.size.trans hN
  refine wp_seq (reg_cmpv (N := N) (t := N) (x0 := nt) (lo := sf) (b := hasV m none ver) s1 ((f1.same sv (by omega) (.inl (by omega))).trans x2) ⟨Nat.le_refl _, c3, c4, Nat.le_refl _, by omega⟩ (fun w => by rw [run_cmp_i16]; simp [hasV]) fun a2 f2 y2 => ?_)
  have s2 := f2.size.trans s1
  refine wp_seq (reg_flag (N := N) (t := N) (x0 := nt) (lo := N) s2 y2 ⟨Nat.le_refl _, c5, c6, Nat.le_refl _⟩ fun a3 f3 _ => ?_)
  have s3 := f3.size.trans s2
  have f03 : Fr N sf N nt a a3 := ((f1.mono (by omega) (Nat.le_refl _)).trans f2).trans (f3.mono (by omega) (Nat.le_refl _))
  refine wp_seq (reg_copy (N := N) (t := N) (x0 := nt) (lo := s) s3 ((f03.same 0 (by omega) (.inl (by omega))).trans x0) ⟨Nat.le_refl _, c7, c8, Nat.le_refl _, c11⟩ fun a4 f4 x4 => ?_)
  have hV : hasV low none ver = true := by
    have h0 : low ≤ ver := by
      cases hx : rdInt 2 32768 bs with
      | none =>
        have := (hs2 hx).1
        omega
      | some q =>
        have h1 := (hs1 q.1 q.2 hx).1
        have h2 := hok q.1 q.2 hx
        omega
    simp [hasV, h0]
  have hK := rdK_st (fl := fun ver => hasV m none ver) (sch := sch) hs1 hs2
  refine hc ver hV _ rb b o T a4 w2 cs st _ (f4.size.trans s3) ?_ hst hF fun a' w' k1 k2 k3 k4 k5 => ?_
  rotate_left
  · refine bodyPost_ret (v := aget a' rs) (results_tmp hres _ _ _) (k2.trans (f4.defers.trans (f03.defers.trans hdf))) ⟨?_, (hk.trans k4).close hrb, fun ver' v r hvr => ?_⟩
    · rw [k3, hK]
      cases st.bind (rd ver (hasV m none ver) sch) <;> rfl
    · rw [hK] at hvr
      cases hx : st.bind (rd ver (hasV m none ver) sch) with
      | none => rw [hx] at hvr; cases hvr
      | some q =>
        rw [hx] at hvr
        simp only [Option.map_some, Option.some.injEq, Prod.mk.injEq] at hvr
        obtain ⟨⟨rfl, rfl⟩, rfl⟩ := hvr
        obtain ⟨j1, cs', j2, j3⟩ := k5 q.1 q.2 hx
        refine ⟨j1.mono hRTm (by simp), ?_⟩
        rw [j2.cell, j3.out _ (.inl (by omega)), ← hst.blk.cell, hv]
  intro q hq
  simp only [List.mem_cons, List.not_mem_nil, or_false] at hq
  rcases hq with rfl | rfl | rfl | rfl | rfl
  · exact x4
  · exact (f4.same bp (by omega) (.inl (by omega))).trans ((f03.same bp (by omega) (.inl (by omega))).trans x1)
  · exact (f4.same sv (by omega) (.inl (by omega))).trans ((f03.same sv (by omega) (.inl (by omega))).trans x2)
  · exact (f4.same sf (by omega) (.inl (by omega))).trans ((f3.same sf (by omega) (.inl (by omega))).trans y2)
  · exact (f4.same 2 (by omega) (.inl (by omega))).trans ((f03.same 2 (by omega) (.inl (by omega))).trans x3)
end
end Go.Proofs.YtkhpglongkhbjaaGreatDoorR

/- What is kept: the version stands ahead, in two octets. What the reference writes of it is read and written the same; cut short it is not read. -/
namespace Go.Proofs.YtkhpglongkhbjaaGreatDoorR
open Go Go.RowKit
set_option linter.unusedVariables false

theorem Mono.rdK (fl : Int → Bool) (sch : Sch) : Mono (rdK fl sch) := (Mono.int 2 32768).bind fun ver => (Mono.rd ver (fl ver) sch).bind fun _ => .pure _
theorem treeRdK {ver : Int} {fl : Int → Bool} {s : Sch} {fs : PFs} (h0 : 0 ≤ ver) (h1 : ver ≤ 32767) (hok : okS ver (fl ver) s = true) (hag : agree ver (fl ver) s false 0 (-1) 0 fs = true) (t : Tree) (ht : TW t) :
    ∃ gv, rdK fl s (fixed ver 2 ++ pPart ver (fl ver) fs t) = some ((ver, gv), []) ∧ be16 ver ++ ap ver (fl ver) s gv = fixed ver 2 ++ pPart ver (fl ver) fs t ∧ ∀ n, n < (fixed ver 2 ++ pPart ver (fl ver) fs t).length → rdK fl s ((fixed ver 2 ++ pPart ver (fl ver) fs t).take n) = none := by
  have e : pPart ver (fl ver) fs t = ap ver (fl ver) s (gvS ver (fl ver) s (-1) fs 0 t) := (gv_ap ver (fl ver) s false 0 (-1) 0 fs hag).2 rfl 0 t
  obtain ⟨v', -, h2, h3⟩ := rd_ap ver (fl ver) s _ hok (gv_wf ver (fl ver) s false 0 (-1) 0 fs hag 0 t ht)
  rw [← e] at h2 h3
  have h4 : Exact (be16 ver ++ pPart ver (fl ver) fs t) (rdK fl s) (ver, v') := Exact.bind (Exact.int2 (by omega) h1) (Exact.bind_pure (f := fun v => (ver, v)) h3)
  have h5 : fixed ver 2 = be16 ver := by simp [fixed]
  rw [h5]
  refine ⟨v', ?_, by rw [h2], fun n hn => cut_none (Mono.rdK fl s) h4 hn⟩
  have := h4 []
  rwa [List.append_nil] at this
/-- What is read of any octets is written as octets that are read again, and written as the same. -/
theorem anyLawK {fl : Int → Bool} {s : Sch} {bs r : List UInt8} {ver : Int} {v : GV} (hok : ∀ ver, -32768 ≤ ver → okS ver (fl ver) s = true) (hb : bs.length ≤ 1000) (h : rdK fl s bs = some ((ver, v), r)) :
    (be16 ver ++ ap ver (fl ver) s v).length ≤ 1000 ∧ ∃ v', rdK fl s (be16 ver ++ ap ver (fl ver) s v) = some ((ver, v'), []) ∧ ap ver (fl ver) s v' = ap ver (fl ver) s v := by
  obtain ⟨n, r', h1, h2⟩ := bind_some h
  obtain ⟨g, r2, h3, h4⟩ := bind_some h2
  obtain ⟨h5, -⟩ := pure_some h4
  cases h5
  obtain ⟨h6, h7, h8⟩ := out_int (by omega) h1
  obtain ⟨h9, h10⟩ := rd_out ver (fl ver) s (hok ver h6) (by unfold M; omega) h3
  obtain ⟨v', -, h11, h12⟩ := rd_ap ver (fl ver) s v (hok ver h6) h9
  refine ⟨by rw [List.length_append, be16_length]; omega, v', ?_, h11⟩
  have h13 : Exact (be16 ver ++ ap ver (fl ver) s v) (rdK fl s) (ver, v') := Exact.bind (Exact.int2 h6 (by omega)) (Exact.bind_pure (f := fun v => (ver, v)) h12)
  have := h13 []
  rwa [List.append_nil] at this
/-- What Again of a kept thing answers. -/
def AgainPostK (fl : Int → Bool) (s : Sch) (bs : List UInt8) (w : World) (e : Ending) (w' : World) : Prop :=
  Below w.heap.size w w' ∧ (rdK fl s bs = none → e = .returned (.tuple #[.slice none 0 0, .bool false])) ∧ ∀ ver v r, rdK fl s bs = some ((ver, v), r) → ∃ x, e = .returned (.tuple #[x, .bool true]) ∧ Own w.heap.size w' x (be16 ver ++ ap ver (fl ver) s v)
theorem rdK_ver {fl : Int → Bool} {s : Sch} {bs r : List UInt8} {ver : Int} {v : GV} (h : rdK fl s bs = some ((ver, v), r)) : -32768 ≤ ver ∧ ver ≤ 32767 ∧ ∃ r', rdInt 2 32768 bs = some (ver, r') := by
  obtain ⟨n, r', h1, h2⟩ := bind_some h
  obtain ⟨g, r2, h3, h4⟩ := bind_some h2
  obtain ⟨h5, -⟩ := pure_some h4
  cases h5
  obtain ⟨h6, h7, -⟩ := out_int (by omega) h1
  exact ⟨h6, by omega, r', h1⟩
theorem repK {RT : RTags} {O : List Nat} {w : World} {ver low : Int} {flex : Bool} {s : Sch} {b o off0 : Nat} {gv : GV} (h : Rep RT O w ver flex s b o gv) (hc : w.cell? ⟨b, o + off0, none⟩ = some (.int .i16 ver)) (h0 : -32768 ≤ ver) (h1 : ver ≤ 32767) :
    Rep RT O w ver flex (.cons off0 low none (.leaf .i16) s) b o (.cons (.int ver) gv) := by
  unfold Rep
  exact ⟨fun _ => by unfold Rep RepLeaf; exact ⟨hc, h0, h1⟩, h⟩
theorem apK {ver low : Int} {flex : Bool} {s : Sch} {off0 : Nat} {gv : GV} (h0 : low ≤ ver) : ap ver flex (.cons off0 low none (.leaf .i16) s) (.cons (.int ver) gv) = be16 ver ++ ap ver flex s gv := by
  simp [ap, apLeaf, hasV, h0]

/-- 'var v T; v.Default(); return v'. -/
theorem calls_newK {P : Program} {f : Nat} {fn : Func} {nt FD U n r0 r1 r2 r3 y0 y1 y2 y3 y4 : Nat} {q0 q1 q2 q3 q4 : String} {g0 g1 g2 g3 g4 : Array Edge} {at_ : Array TypeId} {z C : List Value}
    (hf : P.funcs[f]? = some fn)
    (hbody : fn.body = some ((Code.region r0 #[⟨some 0, .alloc U, y0, q0, g0, none⟩] false).seq ((Code.region r1 #[⟨some 1, .alloc U, y1, q1, g1, none⟩] false).seq
      ((Code.region r2 #[⟨some 2, .call { callee := .value (.func FD), args := #[.tmp 1], argTypes := at_ }, y2, q2, g2, none⟩] false).seq
      ((Code.region r3 #[⟨some 3, .load U (.tmp 1), y3, q3, g3, none⟩, ⟨none, .store U (.tmp 0) (.tmp 3), y4, q4, g4, none⟩] false).seq .ret)))))
    (hnt : fn.ntmps = nt) (hnt4 : 4 ≤ nt) (hres : fn.results = #[.cell 0 U]) (he : Enters P FD) (hU : ManyCells P U n)
    (hz : ∀ w, (Instr.alloc U true (.tuple #[])).run P w = .ok (.pointer (some ⟨w.heap.size, 0, none⟩)) (w.alloc (.cells z.toArray U))) (hzn : z.length = n) (hC : C.length = n) (h1 : ∀ v ∈ C, v.oneCell' = true)
    (hDef : ∀ (w : World) (b : Nat), Blk w b z U → Calls P FD #[.pointer (some ⟨b, 0, none⟩)] w fun en w' => en = .returned (.tuple #[]) ∧ Blk w' b C U ∧ Keeps [b] w w') (w : World) :
    Calls P f #[] w fun e w' => e = .returned (.agg C.toArray) ∧ Below w.heap.size w w' := by
  refine calls_of_wp hf hbody ?_
  rw [hnt]
  generalize hA : ({ tmps := #[] ++ Array.replicate (nt - (#[] : Array Value).size) undef, defers := [] } : Act) = A
  have hAs : A.tmps.size = nt := by rw [← hA]; simp
  have hAd : A.defers = [] := by rw [← hA]
  clear hA
  refine wp_seq (wp_reg ?_)
  refine wl_value (v := .pointer (some ⟨w.heap.size, 0, none⟩)) (w' := w.alloc (.cells z.toArray U)) rfl (by simp [execOp, hz]) ?_
  refine wpList_nil ?_
  simp only [Exit.then]
  refine wp_seq (wp_reg ?_)
  refine wl_value (v := .pointer (some ⟨(w.alloc (.cells z.toArray U)).heap.size, 0, none⟩)) (w' := (w.alloc (.cells z.toArray U)).alloc (.cells z.toArray U)) rfl (by simp [execOp, hz]) ?_
  refine wpList_nil ?_
  simp only [Exit.then]
  have hs1 : (w.alloc (.cells z.toArray U)).heap.size = w.heap.size + 1 := by simp
  have hb1 := Blk.alloc_new (w.alloc (.cells z.toArray U)) z U
  have hb0 := (Blk.alloc_new w z U).alloc (.cells z.toArray U)
  have hbel := ((Below.refl w.heap.size w).alloc (Nat.le_refl _) (.cells z.toArray U)).alloc (by simp) (.cells z.toArray U)
  rw [hs1] at hb1
  rw [hs1]
  generalize (w.alloc (.cells z.toArray U)).alloc (.cells z.toArray U) = w2 at *
  have a1 : aget ((A.put (some 0) (.pointer (some ⟨w.heap.size, 0, none⟩))).put (some 1) (.pointer (some ⟨w.heap.size + 1, 0, none⟩))) 1 = .pointer (some ⟨w.heap.size + 1, 0, none⟩) := aget_put_same _ _ _ (by simp only [size_put]; omega)
  have a0 : aget ((A.put (some 0) (.pointer (some ⟨w.heap.size, 0, none⟩))).put (some 1) (.pointer (some ⟨w.heap.size + 1, 0, none⟩))) 0 = .pointer (some ⟨w.heap.size, 0, none⟩) := by
    rw [aget_put_other _ _ _ _ (by omega)]; exact aget_put_same _ _ _ (by omega)
  have hAz : ((A.put (some 0) (.pointer (some ⟨w.heap.size, 0, none⟩))).put (some 1) (.pointer (some ⟨w.heap.size + 1, 0, none⟩))).tmps.size = nt := by simp only [size_put, hAs]
  have ad : ((A.put (some 0) (.pointer (some ⟨w.heap.size, 0, none⟩))).put (some 1) (.pointer (some ⟨w.heap.size + 1, 0, none⟩))).defers = [] := by simp only [defers_put, hAd]
  generalize (A.put (some 0) (.pointer (some ⟨w.heap.size, 0, none⟩))).put (some 1) (.pointer (some ⟨w.heap.size + 1, 0, none⟩)) = A2 at *
  refine wp_seq (wp_reg ?_)
  refine wl_call (R := fun en w' => en = .returned (.tuple #[]) ∧ Blk w' (w.heap.size + 1) C U ∧ Keeps [w.heap.size + 1] w2 w') he ?_ ?_
  · simp only [List.map_toArray, List.map_cons, List.map_nil, aget_eval]
    rw [a1]
    exact hDef w2 _ hb1
  rintro en w3 ⟨rfl, hb3, hk3⟩
  refine ⟨_, rfl, wpList_nil ?_⟩
  simp only [Exit.then]
  have h03 := hb0.keeps hk3 (by simp)
  refine wp_seq (wp_reg ?_)
  refine wl_value (v := .agg C.toArray) (w' := w3) rfl ?_ ?_
  · have e1 : aget (A2.put (some 2) (.tuple #[])) 1 = .pointer (some ⟨w.heap.size + 1, 0, none⟩) := by rw [aget_put_other _ _ _ _ (by omega)]; exact a1
    have e2 := run_load_many (P := P) hU (w := w3) (ad := ⟨w.heap.size + 1, 0, none⟩) hC (fun j v hj => by rw [Addr.add_lit, Nat.zero_add, hb3.cell]; exact hj)
    simp [execOp, aget_eval, e1, e2]
  refine wl_store (w' := w3.setRow w.heap.size C.toArray) ?_ ?_
  · rw [aget_eval, aget_eval, aget_put_other _ _ _ 0 (by omega), aget_put_other _ _ _ 0 (by omega), a0, aget_put_same _ _ _ (by simp only [size_put]; omega)]
    exact run_store_many (P := P) hU (cur := z.toArray) h03 (by simpa using hzn) hC h1
  refine wpList_nil ?_
  simp only [Exit.then]
  have hr4 : Blk (w3.setRow w.heap.size C.toArray) w.heap.size C U := setRow_heap _ _ _ _ _ _ h03
  refine wp_ret (bodyPost_ret (v := .agg C.toArray) (results_cellN (ad := ⟨w.heap.size, 0, none⟩) hres ?_ hU hC (fun j v hj => by rw [Addr.add_lit, Nat.zero_add, hr4.cell]; exact hj)) (by simp only [defers_put, ad]) ⟨rfl, ?_⟩)
  · have : aget ((A2.put (some 2) (.tuple #[])).put (some 3) (.agg C.toArray)) 0 = .pointer (some ⟨w.heap.size, 0, none⟩) := by
      rw [aget_put_other _ _ _ _ (by omega), aget_put_other _ _ _ _ (by omega)]; exact a0
    exact this
  · exact below_setRow (hbel.trans (hk3.below (by have := hb1.lt; omega) (by simp))) (Nat.le_refl _) _

theorem keepK {n g : Nat} {w w' : World} {m0 m1 v0 v1 v2 v3 v4 : Value} (hb : Below n w w') (hg : g + 1 < n)
    (h : w.cell? ⟨g, 0, none⟩ = some m0 ∧ w.cell? ⟨g, 1, none⟩ = some m1 ∧ w.cell? ⟨g + 1, 0, none⟩ = some v0 ∧ w.cell? ⟨g + 1, 1, none⟩ = some v1 ∧ w.cell? ⟨g + 1, 2, none⟩ = some v2 ∧ w.cell? ⟨g + 1, 3, none⟩ = some v3 ∧ w.cell? ⟨g + 1, 4, none⟩ = some v4) :
    w'.cell? ⟨g, 0, none⟩ = some m0 ∧ w'.cell? ⟨g, 1, none⟩ = some m1 ∧ w'.cell? ⟨g + 1, 0, none⟩ = some v0 ∧ w'.cell? ⟨g + 1, 1, none⟩ = some v1 ∧ w'.cell? ⟨g + 1, 2, none⟩ = some v2 ∧ w'.cell? ⟨g + 1, 3, none⟩ = some v3 ∧ w'.cell? ⟨g + 1, 4, none⟩ = some v4 := by
  have k0 := fun i => hb.cell (p := ⟨g, i, none⟩) (by show g < n; omega)
  have k1 := fun i => hb.cell (p := ⟨g + 1, i, none⟩) hg
  exact ⟨(k0 0).trans h.1, (k0 1).trans h.2.1, (k1 0).trans h.2.2.1, (k1 1).trans h.2.2.2.1, (k1 2).trans h.2.2.2.2.1, (k1 3).trans h.2.2.2.2.2.1, (k1 4).trans h.2.2.2.2.2.2⟩
set_option maxRecDepth 100000 in
set_option maxHeartbeats 3200000 in
theorem spKept (fs : PFs) (htag : fs.noTag) (hopt : fs.noOpt) (ver fl : Int) (t : Tree) (flex : Bool) (hfl : flex = (decide (0 ≤ fl) && decide (fl ≤ ver))) (B base : Nat) (w : World) (fv : Value) (c : List Value) (hB : B ≤ base) (hb : base ≤ w.heap.size)
    (hf : RepF B w fs fv) (ht : RepT B w c t) (hl : (fixed ver 2 ++ pPart ver flex fs t).length ≤ lim) :
    Gives Tryz.prog 5 #[.agg #[fv, .int .i64 fl], .int .i64 ver, .agg c.toArray] w base (fixed ver 2 ++ pPart ver flex fs t) := by
  obtain ⟨sv, lv, uv, rfl, -, ⟨sa, sc, rfl, -⟩, ⟨la, lc, lf, rfl, -⟩, ⟨ua, uc, rfl, -⟩⟩ := ht.parts
  obtain ⟨fa, fcap, rfl, -⟩ := id hf
  have hM := (Blk.alloc_new w [.slice fa fs.len fcap, .int .i64 fl] 28).alloc (.cells #[.int .i64 t.n, .slice sa t.s.length sc, .bool t.null, .slice la t.l.length lc, .slice ua t.u.length uc] 33)
  have hT := Blk.alloc_new (w.alloc (.cells #[.slice fa fs.len fcap, .int .i64 fl] 28)) [.int .i64 t.n, .slice sa t.s.length sc, .bool t.null, .slice la t.l.length lc, .slice ua t.u.length uc] 33
  have hs1 : (w.alloc (.cells #[.slice fa fs.len fcap, .int .i64 fl] 28)).heap.size = w.heap.size + 1 := by simp
  have hb2 := ((Below.refl base w).alloc hb (.cells #[.slice fa fs.len fcap, .int .i64 fl] 28)).alloc (Nat.le_trans hb (by simp)) (.cells #[.int .i64 t.n, .slice sa t.s.length sc, .bool t.null, .slice la t.l.length lc, .slice ua t.u.length uc] 33)
  rw [hs1] at hT
  obtain ⟨W0, hW⟩ : ∃ W0, ((w.alloc (.cells #[.slice fa fs.len fcap, .int .i64 fl] 28)).alloc (.cells #[.int .i64 t.n, .slice sa t.s.length sc, .bool t.null, .slice la t.l.length lc, .slice ua t.u.length uc] 33)) = W0 := ⟨_, rfl⟩
  have hsW : W0.drew.heap.size = w.heap.size + 2 := by rw [← hW]; simp
  have c : W0.drew.cell? ⟨w.heap.size, 0, none⟩ = some (.slice fa fs.len fcap) ∧ W0.drew.cell? ⟨w.heap.size, 1, none⟩ = some (.int .i64 fl) ∧ W0.drew.cell? ⟨w.heap.size + 1, 0, none⟩ = some (.int .i64 t.n) ∧ W0.drew.cell? ⟨w.heap.size + 1, 1, none⟩ = some (.slice sa t.s.length sc) ∧ W0.drew.cell? ⟨w.heap.size + 1, 2, none⟩ = some (.bool t.null) ∧ W0.drew.cell? ⟨w.heap.size + 1, 3, none⟩ = some (.slice la t.l.length lc) ∧ W0.drew.cell? ⟨w.heap.size + 1, 4, none⟩ = some (.slice ua t.u.length uc) := by
    rw [← hW]
    exact ⟨hM.drew.cell_some (i := 0) rfl, hM.drew.cell_some (i := 1) rfl, hT.drew.cell_some (i := 0) rfl, hT.drew.cell_some (i := 1) rfl, hT.drew.cell_some (i := 2) rfl, hT.drew.cell_some (i := 3) rfl, hT.drew.cell_some (i := 4) rfl⟩
  have hbW : Below base w W0.drew := by rw [← hW]; exact hb2.drew
  have H := Lib.hid (And.intro (hf.below (hbW.mono hB)) (And.intro (ht.keep (hbW.mono hB)) (And.intro hbW c)))
  clear hM hT hb2 hbW hf ht c hs1
  go_enter Tryz.func5, Tryz.ntmps5
  go_wp2_with fail
  go_region_held3 (fun w' => w'.cell? ⟨w.heap.size, 0, none⟩ = some (.slice fa fs.len fcap) ∧ w'.cell? ⟨w.heap.size, 1, none⟩ = some (.int .i64 fl) ∧ w'.cell? ⟨w.heap.size + 1, 0, none⟩ = some (.int .i64 t.n) ∧ w'.cell? ⟨w.heap.size + 1, 1, none⟩ = some (.slice sa t.s.length sc) ∧ w'.cell? ⟨w.heap.size + 1, 2, none⟩ = some (.bool t.null) ∧ w'.cell? ⟨w.heap.size + 1, 3, none⟩ = some (.slice la t.l.length lc) ∧ w'.cell? ⟨w.heap.size + 1, 4, none⟩ = some (.slice ua t.u.length uc))
    (first | exact H.out.2.2.2 | exact hS3 | exact hS4 | exact hS5)
    (first
      | (go_at_call 11; refine (spFixed2 ver W0.drew.heap.size W0.drew (Nat.le_refl _)).mono ?_; rintro e w3 ⟨v3, rfl, hown3, hb3⟩; have z3 := hb3.size; have hS3 := keepK hb3 (by omega) H.out.2.2.2)
      | (go_at_call 12; refine (spWrite fs htag hopt ver fl t flex hfl B w3.heap.size w3 _ _ (by omega) (Nat.le_refl _) (H.out.1.below (hb3.mono (by omega))) (H.out.2.1.keep (hb3.mono (by omega))) (by simp only [List.length_append] at hl; omega)).mono ?_; rintro e w4 ⟨v4, rfl, hown4, hb4⟩; have z4 := hb4.size; have hS4 := keepK hb4 (by omega) hS3)
      | (refine step_append_from bt rfl (.tmp 8) (.tmp 12) rfl W0.drew.heap.size _ (hown3.stay hb4 (Nat.le_refl _)) (by omega) _ (Src.ofRL (B := w4.heap.size) Tryz.underlying22 (hown4.rl)) (by rw [← List.length_append]; exact hl) ?_; intro v5 w5 hown5 hb5; have hS5 := keepK hb5 (by omega) hS4))
  have FIN := Lib.hid (And.intro hown5 (H.out.2.2.1.trans (((hb3.mono (by omega)).trans (hb4.mono (by omega))).trans (hb5.mono (by omega)))))
  clear hown3 hb3 hown4 hb4 hown5 hb5 hS3 hS4
  go_wp2
  go_ret
  exact .mk (FIN.out.1.mono (by omega)) FIN.out.2
end Go.Proofs.YtkhpglongkhbjaaGreatDoorR
