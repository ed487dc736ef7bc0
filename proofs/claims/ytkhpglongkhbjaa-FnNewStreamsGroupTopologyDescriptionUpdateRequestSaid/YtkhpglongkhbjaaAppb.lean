/- The code that writes a part, second half: tags, counts, things of lists, 16 octets, the end, the whole function. Any program. -/
import Derived.Test.YtkhpglongkhbjaaApp
namespace Go.Proofs.Ytkhpglongkhbjaa
open Go Go.RowKit
set_option linter.unusedVariables false

theorem St.cell' {nt : Nat} {w0 : World} {a : Act} {w : World} {bs : List UInt8} (h : St nt w0 a w bs) {b o : Nat} {x : Value} (hc : w0.cell? ⟨b, o, none⟩ = some x) : w.cell? ⟨b, o, none⟩ = some x := h.cell hc

section
variable {RT : RTags} {P : Program} {N nt : Nat} {w0 : World} {K : Slots} {lo t : Nat}

/-- What is asked of the functions on tags: how many there are; what is written of them. -/
def TagsOK (RT : RTags) (P : Program) (FLen FEach : Nat) : Prop :=
  ∀ (w0 : World) (b o : Nat) (l : List (Nat × List UInt8)), RT [] w0 b o l → l.length ≤ 4294967295 ∧
    (∀ w, Below w0.heap.size w0 w → Calls P FLen #[.pointer (some ⟨b, o, none⟩)] w fun e w' => e = .returned (.int .i64 l.length) ∧ w = w') ∧
    (∀ (w : World) (v : Value) (bs : List UInt8), Below w0.heap.size w0 w → Own w0.heap.size w v bs → bs.length + (apTags l).length ≤ lim → Calls P FEach #[.pointer (some ⟨b, o, none⟩), v] w (Appended w0.heap.size w (bs ++ apTags l)))

theorem appS_tags {ver : Int} {flex : Bool} {s sf t0 t1 t2 k k' off T T' FLen FEach FU I U r0 r1 r2 ty0 ty1 ty2 ty3 ty4 ty5 ty6 ty7 ty8 ty9 ty10 ty11 ty12 ty13 ty14 ty15 J1 J2 : Nat} {p0 p1 p2 p3 p4 p5 p6 p7 p8 p9 p10 p11 p12 p13 p14 p15 : String} {e0 e1 e2 e3 e4 e5 e6 e7 e8 e9 e10 e11 e12 e13 e14 e15 : Array Edge} {at1 at2 at3 : Array TypeId}
    (hk : KOK N lo t K) (hs : s ≠ 1 ∧ s < lo) (hf : (sf, Value.bool flex) ∈ K) (hT : FieldAt P T k off) (hT' : FieldAt P T' k' off) (hI : P.underlying I = some (.int .i64)) (hU : P.underlying U = some (.int .u32))
    (hL : Enters P FLen) (hE : Enters P FEach) (hV : Enters P FU) (hTags : TagsOK RT P FLen FEach) (hUv : ∀ n : Nat, n ≤ 4294967295 → AppC P FU (.int .u32 n) (uv n)) (hD : Dims N nt lo t)
    (hd : t ≤ t0 ∧ t0 < nt ∧ t ≤ t1 ∧ t1 + 7 < nt ∧ t ≤ t2 ∧ t2 + 4 < nt) :
    AppS RT P N nt ver flex K lo t s
      ((Code.region r0 #[⟨some t0, .move (.tmp sf), ty0, p0, e0, none⟩] false).seq (.cond (.tmp t0)
        ((Code.region r1 #[⟨some t1, .move (.tmp 1), ty1, p1, e1, none⟩, ⟨some (t1 + 1), .move (.tmp s), ty2, p2, e2, none⟩, ⟨some (t1 + 2), .nilCheck (.tmp (t1 + 1)), ty3, p3, e3, none⟩, ⟨some (t1 + 3), .fieldAddr T (.tmp (t1 + 2)) k, ty4, p4, e4, none⟩,
          ⟨some (t1 + 4), .call { callee := .value (.func FLen), args := #[.tmp (t1 + 3)], argTypes := at1 }, ty5, p5, e5, none⟩, ⟨some (t1 + 5), .convert I U (.tmp (t1 + 4)), ty6, p6, e6, none⟩,
          ⟨some (t1 + 6), .binOp .add J1 (.const (.int .u32 0)) (.tmp (t1 + 5)) J2, ty7, p7, e7, none⟩, ⟨some (t1 + 7), .call { callee := .value (.func FU), args := #[.tmp t1, .tmp (t1 + 6)], argTypes := at2 }, ty8, p8, e8, none⟩, ⟨some 1, .assign (.tmp (t1 + 7)), ty9, p9, e9, none⟩] false).seq
        (.region r2 #[⟨some t2, .move (.tmp s), ty10, p10, e10, none⟩, ⟨some (t2 + 1), .nilCheck (.tmp t2), ty11, p11, e11, none⟩, ⟨some (t2 + 2), .fieldAddr T' (.tmp (t2 + 1)) k', ty12, p12, e12, none⟩, ⟨some (t2 + 3), .move (.tmp 1), ty13, p13, e13, none⟩,
          ⟨some (t2 + 4), .call { callee := .value (.func FEach), args := #[.tmp (t2 + 2), .tmp (t2 + 3)], argTypes := at3 }, ty14, p14, e14, none⟩, ⟨some 1, .assign (.tmp (t2 + 4)), ty15, p15, e15, none⟩] false))
        .skip)) (.tags off) := by
  intro w0 b o v hr
  cases v <;> simp only [Rep] at hr <;> try exact hr.elim
  rename_i l
  obtain ⟨d1, d2, d3, d4, d5, d6⟩ := hd
  obtain ⟨hlen, hL1, hE1⟩ := hTags w0 b (o + off) l hr
  have g1 := hD.dOne; have g2 := hD.dLo; have g3 := hD.dT; have g4 := hD.dN
  refine app_flag (hk.cons ⟨hs.1, .inl hs.2⟩) (List.mem_cons_of_mem _ hf) hD ⟨d1, d2⟩ (fun hfl => ?_) (fun hfl => ?_)
  · subst hfl
    refine (App.seq (n1 := uv l.length) (n2 := apTags l) (hk.cons ⟨hs.1, .inl hs.2⟩) ?_ ?_).of_eq (by simp [ap])
    · intro a w bs Q hst hh hl hq
      have hN := hst.size
      refine wp_reg ?_
      refine wl_move rfl ?_
      refine wl_move (v := .pointer (some ⟨b, o, none⟩)) (by rw [aget_put_other _ _ _ _ (by omega)]; exact hh.head) ?_
      refine wl_nilCheck (aget_put_same _ _ _ (by (first | rw [hN] | simp only [size_put, hN]); omega)) ?_
      refine wl_fieldAddr hT (aget_put_same _ _ _ (by (first | rw [hN] | simp only [size_put, hN]); omega)) ?_
      rw [Addr.add_lit]
      refine wl_call (R := fun e w' => e = .returned (.int .i64 l.length) ∧ w = w') hL ?_ ?_
      · simp only [List.map_toArray, List.map_cons, List.map_nil, aget_eval]
        rw [aget_put_same _ _ _ (by (first | rw [hN] | simp only [size_put, hN]); omega)]
        exact hL1 w hst.below
      rintro e w' ⟨rfl, rfl⟩
      refine ⟨_, rfl, ?_⟩
      refine wl_value (v := .int .u32 l.length) (w' := w) rfl ?_ ?_
      · have e1 : ∀ A : Act, aget A (t1 + 4) = .int .i64 l.length → (execOp A.eval ⟨some (t1 + 5), .convert I U (.tmp (t1 + 4)), ty6, p6, e6, none⟩).run P w = .ok (.value (.int .u32 l.length)) w := by
          intro A hA
          have e2 : A.eval (.tmp (t1 + 4)) = .int .i64 l.length := hA
          have e3 : IntKind.u32.wrap (l.length : Int) = l.length := by rw [IntKind.wrap_u32]; omega
          simp [execOp, e2, convert, run_underlying hI, run_underlying hU, Conv.intToInt, e3]
        exact e1 _ (aget_put_same _ _ _ (by (first | rw [hN] | simp only [size_put, hN]); omega))
      refine wl_value (v := .int .u32 l.length) (w' := w) rfl ?_ ?_
      · have e1 : ∀ A : Act, aget A (t1 + 5) = .int .u32 l.length → (execOp A.eval ⟨some (t1 + 6), .binOp .add J1 (.const (.int .u32 0)) (.tmp (t1 + 5)) J2, ty7, p7, e7, none⟩).run P w = .ok (.value (.int .u32 l.length)) w := by
          intro A hA
          have e2 : A.eval (.tmp (t1 + 5)) = .int .u32 l.length := hA
          have e4 : A.eval (.const (.int .u32 0)) = .int .u32 0 := rfl
          have e3 : IntKind.u32.wrap (l.length : Int) = l.length := by rw [IntKind.wrap_u32]; omega
          simp [execOp, e2, e4, eqGuard_at_int, binOp, Op.intArith, e3]
        exact e1 _ (aget_put_same _ _ _ (by (first | rw [hN] | simp only [size_put, hN]); omega))
      refine wl_call (R := Appended w0.heap.size w (bs ++ uv l.length)) hV ?_ ?_
      · simp only [List.map_toArray, List.map_cons, List.map_nil, aget_eval]
        rw [aget_put_other _ _ _ _ (by omega), aget_put_other _ _ _ _ (by omega), aget_put_other _ _ _ _ (by omega), aget_put_other _ _ _ _ (by omega), aget_put_other _ _ _ _ (by omega), aget_put_other _ _ _ _ (by omega),
          aget_put_same _ _ _ (by (first | rw [hN] | simp only [size_put, hN]); omega), aget_put_same _ _ _ (by (first | rw [hN] | simp only [size_put, hN]); omega)]
        exact hUv l.length (by omega) w0.heap.size w _ bs hst.own hst.below.size hl
      rintro e w' ⟨v', rfl, hown, hbel⟩
      refine ⟨v', rfl, ?_⟩
      refine wl_assign (aget_put_same _ _ _ (by (first | rw [hN] | simp only [size_put, hN]); omega)) ?_
      refine wpList_nil (hq _ _ ⟨by simp only [size_put, hN], ?_, hst.below.trans hbel⟩ (((((((((((Fr.refl N lo t 1 a).put _ _ (by omega)).put _ _ (by omega)).put _ _ (by omega)).put _ _ (by omega)).put _ _ (by omega)).put _ _ (by omega)).put _ _ (by omega)).put _ _ (by omega)).put _ _ (by omega))))
      rw [aget_put_same _ _ _ (by (first | rw [hN] | simp only [size_put, hN]); omega)]
      exact hown
    · intro a w bs Q hst hh hl hq
      have hN := hst.size
      refine wp_reg ?_
      refine wl_move (v := .pointer (some ⟨b, o, none⟩)) hh.head ?_
      refine wl_nilCheck (aget_put_same _ _ _ (by (first | rw [hN] | simp only [size_put, hN]); omega)) ?_
      refine wl_fieldAddr hT' (aget_put_same _ _ _ (by (first | rw [hN] | simp only [size_put, hN]); omega)) ?_
      rw [Addr.add_lit]
      refine wl_move (v := aget a 1) (by rw [aget_put_other _ _ _ _ (by omega), aget_put_other _ _ _ _ (by omega), aget_put_other _ _ _ _ (by omega)]) ?_
      refine wl_call (R := Appended w0.heap.size w (bs ++ apTags l)) hE ?_ ?_
      · simp only [List.map_toArray, List.map_cons, List.map_nil, aget_eval]
        rw [aget_put_other _ _ _ _ (by omega), aget_put_same _ _ _ (by (first | rw [hN] | simp only [size_put, hN]); omega), aget_put_same _ _ _ (by (first | rw [hN] | simp only [size_put, hN]); omega)]
        exact hE1 w _ bs hst.below hst.own hl
      rintro e w' ⟨v', rfl, hown, hbel⟩
      refine ⟨v', rfl, ?_⟩
      refine wl_assign (aget_put_same _ _ _ (by (first | rw [hN] | simp only [size_put, hN]); omega)) ?_
      refine wpList_nil (hq _ _ ⟨by simp only [size_put, hN], ?_, hst.below.trans hbel⟩ (((((((Fr.refl N lo t 1 a).put _ _ (by omega)).put _ _ (by omega)).put _ _ (by omega)).put _ _ (by omega)).put _ _ (by omega)).put _ _ (by omega)))
      rw [aget_put_same _ _ _ (by (first | rw [hN] | simp only [size_put, hN]); omega)]
      exact hown
  · subst hfl
    exact App.skip.of_eq (by simp [ap])

/-- 'dst = F(dst, len(v))'. -/
theorem app_len1 {u t1 F r T E ty1 ty2 ty3 ty4 ty5 : Nat} {p1 p2 p3 p4 p5 : String} {e1 e2 e3 e4 e5 : Array Edge} {at_ : Array TypeId} {ad : Option Addr} {n cap : Nat} {new : List UInt8}
    (hT : P.underlying T = some (.slice E)) (he : Enters P F) (hC : AppC P F (.int .i64 n) new) (hD : Dims N nt lo t) (hd : t ≤ t1 ∧ t1 + 3 < nt ∧ u ≠ t1) :
    App P N nt w0 ((u, .slice ad n cap) :: K) lo t (Code.region r #[⟨some t1, .move (.tmp 1), ty1, p1, e1, none⟩, ⟨some (t1 + 1), .move (.tmp u), ty2, p2, e2, none⟩,
      ⟨some (t1 + 2), .call { callee := .builtin .len, args := #[.tmp (t1 + 1)], argTypes := #[T] }, ty5, p5, e5, none⟩,
      ⟨some (t1 + 3), .call { callee := .value (.func F), args := #[.tmp t1, .tmp (t1 + 2)], argTypes := at_ }, ty3, p3, e3, none⟩, ⟨some 1, .assign (.tmp (t1 + 3)), ty4, p4, e4, none⟩] false) new := by
  intro a w bs Q hst hh hl hq
  obtain ⟨g1, g2, g3, g4⟩ := hD
  obtain ⟨h1, h2, h3⟩ := hd
  have hN := hst.size
  refine wp_reg ?_
  refine wl_move rfl ?_
  refine wl_move (v := .slice ad n cap) (by rw [aget_put_other _ _ _ _ (by omega)]; exact hh.head) ?_
  refine wl_len_slice hT (aget_put_same _ _ _ (by (first | rw [hN] | simp only [size_put, hN]); omega)) ?_
  refine wl_call (R := Appended w0.heap.size w (bs ++ new)) he ?_ ?_
  · simp only [List.map_toArray, List.map_cons, List.map_nil, aget_eval]
    rw [aget_put_other _ _ _ _ (by omega), aget_put_other _ _ _ _ (by omega), aget_put_same _ _ _ (by (first | rw [hN] | simp only [size_put, hN]); omega), aget_put_same _ _ _ (by (first | rw [hN] | simp only [size_put, hN]); omega)]
    exact hC w0.heap.size w _ bs hst.own hst.below.size hl
  · rintro e w' ⟨v', rfl, hown, hbel⟩
    refine ⟨v', rfl, ?_⟩
    refine wl_assign (aget_put_same _ _ _ (by (first | rw [hN] | simp only [size_put, hN]); omega)) ?_
    refine wpList_nil (hq _ _ ⟨by simp only [size_put, hN], ?_, hst.below.trans hbel⟩ ((((((Fr.refl N lo t 1 a).put _ _ (by omega)).put _ _ (by omega)).put _ _ (by omega)).put _ _ (by omega)).put _ _ (by omega)))
    rw [aget_put_same _ _ _ (by (first | rw [hN] | simp only [size_put, hN]); omega)]
    exact hown

/-- Function F, handed a count and whether it is null, appends new. -/
def AppC2 (P : Program) (f : Nat) (n : Nat) (nul : Bool) (new : List UInt8) : Prop :=
  ∀ (base : Nat) (w : World) (v : Value) (bs : List UInt8), Own base w v bs → base ≤ w.heap.size → bs.length + new.length ≤ lim → Calls P f #[v, .int .i64 n, .bool nul] w (Appended base w (bs ++ new))

theorem run_equalIn_slice_nil (w : World) (d : Nat) {T E : Nat} (hT : P.underlying T = some (.slice E)) (ad : Option Addr) (n c : Nat) : (Op.equalIn (d + 1) T (.slice ad n c) (.slice none 0 0)).run P w = .ok ad.isNone w := by
  cases ad <;> simp [Op.equalIn, run_underlying hT]
theorem run_eql_slice_nil' (w : World) {T E : Nat} (hT : P.underlying T = some (.slice E)) (ad : Option Addr) (n c : Nat) : (binOp .eql T (.slice ad n c) (.slice none 0 0)).run P w = .ok (.bool ad.isNone) w := by
  simp only [binOp, Op.equal, Op.maxDepth]
  simp [run_equalIn_slice_nil w 9999 hT ad n c]

/-- 'dst = F(dst, len(v), v == nil)'. -/
theorem app_len2 {u t1 F r T E T2 U2 ty1 ty2 ty3 ty4 ty5 ty6 ty7 : Nat} {p1 p2 p3 p4 p5 p6 p7 : String} {e1 e2 e3 e4 e5 e6 e7 : Array Edge} {at_ : Array TypeId} {ad : Option Addr} {n cap : Nat} {new : List UInt8}
    (hT : P.underlying T = some (.slice E)) (hT2 : P.underlying T2 = some (.slice E)) (he : Enters P F) (hC : AppC2 P F n ad.isNone new) (hD : Dims N nt lo t) (hd : t ≤ t1 ∧ t1 + 5 < nt ∧ u ≠ t1 ∧ u ≠ t1 + 1 ∧ u ≠ t1 + 2) :
    App P N nt w0 ((u, .slice ad n cap) :: K) lo t (Code.region r #[⟨some t1, .move (.tmp 1), ty1, p1, e1, none⟩, ⟨some (t1 + 1), .move (.tmp u), ty2, p2, e2, none⟩,
      ⟨some (t1 + 2), .call { callee := .builtin .len, args := #[.tmp (t1 + 1)], argTypes := #[T] }, ty5, p5, e5, none⟩, ⟨some (t1 + 3), .move (.tmp u), ty6, p6, e6, none⟩,
      ⟨some (t1 + 4), .binOp .eql T2 (.tmp (t1 + 3)) (.const (.slice none 0 0)) U2, ty7, p7, e7, none⟩,
      ⟨some (t1 + 5), .call { callee := .value (.func F), args := #[.tmp t1, .tmp (t1 + 2), .tmp (t1 + 4)], argTypes := at_ }, ty3, p3, e3, none⟩, ⟨some 1, .assign (.tmp (t1 + 5)), ty4, p4, e4, none⟩] false) new := by
  intro a w bs Q hst hh hl hq
  obtain ⟨g1, g2, g3, g4⟩ := hD
  obtain ⟨h1, h2, h3, h4, h5⟩ := hd
  have hN := hst.size
  refine wp_reg ?_
  refine wl_move rfl ?_
  refine wl_move (v := .slice ad n cap) (by rw [aget_put_other _ _ _ _ (by omega)]; exact hh.head) ?_
  refine wl_len_slice hT (aget_put_same _ _ _ (by (first | rw [hN] | simp only [size_put, hN]); omega)) ?_
  refine wl_move (v := .slice ad n cap) (by rw [aget_put_other _ _ _ _ (by omega), aget_put_other _ _ _ _ (by omega), aget_put_other _ _ _ _ (by omega)]; exact hh.head) ?_
  refine wl_bin (r := .bool ad.isNone) (aget_put_same _ _ _ (by (first | rw [hN] | simp only [size_put, hN]); omega)) (eqGuard_at_slice ..) (run_eql_slice_nil' w hT2 ad n cap) ?_
  refine wl_call (R := Appended w0.heap.size w (bs ++ new)) he ?_ ?_
  · simp only [List.map_toArray, List.map_cons, List.map_nil, aget_eval]
    rw [aget_put_other _ _ _ _ (by omega), aget_put_other _ _ _ _ (by omega), aget_put_other _ _ _ _ (by omega), aget_put_other _ _ _ _ (by omega), aget_put_same _ _ _ (by (first | rw [hN] | simp only [size_put, hN]); omega),
      aget_put_other _ _ _ _ (by omega), aget_put_other _ _ _ _ (by omega), aget_put_same _ _ _ (by (first | rw [hN] | simp only [size_put, hN]); omega), aget_put_same _ _ _ (by (first | rw [hN] | simp only [size_put, hN]); omega)]
    exact hC w0.heap.size w _ bs hst.own hst.below.size hl
  · rintro e w' ⟨v', rfl, hown, hbel⟩
    refine ⟨v', rfl, ?_⟩
    refine wl_assign (aget_put_same _ _ _ (by (first | rw [hN] | simp only [size_put, hN]); omega)) ?_
    refine wpList_nil (hq _ _ ⟨by simp only [size_put, hN], ?_, hst.below.trans hbel⟩ ((((((((Fr.refl N lo t 1 a).put _ _ (by omega)).put _ _ (by omega)).put _ _ (by omega)).put _ _ (by omega)).put _ _ (by omega)).put _ _ (by omega)).put _ _ (by omega)))
    rw [aget_put_same _ _ _ (by (first | rw [hN] | simp only [size_put, hN]); omega)]
    exact hown

/-- A part of a list: 'v := &v[i]', and what is written of it. -/
theorem appEl_part {ver : Int} {flex : Bool} {u i v t1 T E r ty1 ty2 ty3 ty4 esz lo' t' : Nat} {p1 p2 p3 p4 : String} {e1 e2 e3 e4 : Array Edge} {c : Code} {e : Sch}
    (hk : KOK N lo t K) (hT : P.underlying T = some (.slice E)) (hE : ∃ i, P.info? E = some i ∧ i.size = esz) (hD : Dims N nt lo t) (hd : t ≤ t1 ∧ t1 + 2 < nt ∧ lo ≤ v ∧ v < N ∧ v < lo' ∧ lo ≤ lo' ∧ t ≤ t' ∧ i ≠ t1)
    (h : AppS RT P N nt ver flex K lo' t' v c e) :
    AppEl RT P N nt ver flex K lo t u i ((Code.region r #[⟨some t1, .move (.tmp u), ty1, p1, e1, none⟩, ⟨some (t1 + 1), .move (.tmp i), ty2, p2, e2, none⟩, ⟨some (t1 + 2), .indexAddr T (.tmp t1) (.tmp (t1 + 1)), ty3, p3, e3, none⟩,
      ⟨some v, .assign (.tmp (t1 + 2)), ty4, p4, e4, none⟩] false).seq c) esz e := by
  intro w0 p q n cap k gv hkn hp hrep a w bs Q hst hh hl hq
  obtain ⟨d1, d2, d3, d4, d5, d6, d7, d8⟩ := hd
  have g2 := hD.dLo; have g3 := hD.dT; have g4 := hD.dN
  have hN := hst.size
  refine wp_seq (wp_reg ?_)
  refine wl_move hh.tail.head ?_
  refine wl_move (v := .int .i64 k) (by rw [aget_put_other _ _ _ _ (by omega)]; exact hh.head) ?_
  refine wl_index (k := k) hT hE hkn (by rw [aget_put_other _ _ _ _ (by omega)]; exact aget_put_same _ _ _ (by (first | rw [hN] | simp only [size_put, hN]); omega)) (aget_put_same _ _ _ (by (first | rw [hN] | simp only [size_put, hN]); omega)) ?_
  rw [Addr.add_lit]
  refine wl_assign (aget_put_same _ _ _ (by (first | rw [hN] | simp only [size_put, hN]); omega)) ?_
  refine wpList_nil ?_
  simp only [Exit.then]
  have hfr0 : Fr N lo t nt a ((((a.put (some t1) (.slice (some ⟨p, q, none⟩) n cap)).put (some (t1 + 1)) (.int .i64 k)).put (some (t1 + 2)) (.pointer (some ⟨p, q + k * esz, none⟩))).put (some v) (.pointer (some ⟨p, q + k * esz, none⟩))) :=
    ((((Fr.refl N lo t nt a).put _ _ (by omega)).put _ _ (by omega)).put _ _ (by omega)).put _ _ (by omega)
  refine h w0 p (q + k * esz) gv hrep _ w bs _ (hst.fr hfr0 hD) ((hh.tail.tail.fr hk (hfr0.to1 hD)).cons (aget_put_same _ _ _ (by (first | rw [hN] | simp only [size_put, hN]); omega))) hl fun a2 w2 hs2 hf2 => hq a2 w2 hs2 ((hfr0.to1 hD).trans (hf2.mono d6 d7))

/-- A value of a list: 'v := v[i]', and what is written of it. -/
theorem appEl_leaf {ver : Int} {flex : Bool} {u i v t1 T E U r ty1 ty2 ty3 ty4 ty5 esz lo' t' : Nat} {p1 p2 p3 p4 p5 : String} {e1 e2 e3 e4 e5 : Array Edge} {c : Code} {lf : Leaf}
    (hk : KOK N lo t K) (hT : P.underlying T = some (.slice E)) (hE : ∃ i, P.info? E = some i ∧ i.size = esz) (hU : OneCell P U) (hD : Dims N nt lo t) (hd : t ≤ t1 ∧ t1 + 3 < nt ∧ lo ≤ v ∧ v < N ∧ v < lo' ∧ lo ≤ lo' ∧ t ≤ t' ∧ i ≠ t1) (hlf : lf ≠ .uuid)
    (h : AppL P N nt ver flex K lo' t' v c lf) :
    AppEl RT P N nt ver flex K lo t u i ((Code.region r #[⟨some t1, .move (.tmp u), ty1, p1, e1, none⟩, ⟨some (t1 + 1), .move (.tmp i), ty2, p2, e2, none⟩, ⟨some (t1 + 2), .indexAddr T (.tmp t1) (.tmp (t1 + 1)), ty3, p3, e3, none⟩,
      ⟨some (t1 + 3), .load U (.tmp (t1 + 2)), ty4, p4, e4, none⟩, ⟨some v, .assign (.tmp (t1 + 3)), ty5, p5, e5, none⟩] false).seq c) esz (.leaf lf) := by
  intro w0 p q n cap k gv hkn hp hrep a w bs Q hst hh hl hq
  obtain ⟨x, hc⟩ := RepLeaf.hasCell hrep hlf
  obtain ⟨d1, d2, d3, d4, d5, d6, d7, d8⟩ := hd
  have g2 := hD.dLo; have g3 := hD.dT; have g4 := hD.dN
  have hN := hst.size
  refine wp_seq (wp_reg ?_)
  refine wl_move hh.tail.head ?_
  refine wl_move (v := .int .i64 k) (by rw [aget_put_other _ _ _ _ (by omega)]; exact hh.head) ?_
  refine wl_index (k := k) hT hE hkn (by rw [aget_put_other _ _ _ _ (by omega)]; exact aget_put_same _ _ _ (by (first | rw [hN] | simp only [size_put, hN]); omega)) (aget_put_same _ _ _ (by (first | rw [hN] | simp only [size_put, hN]); omega)) ?_
  rw [Addr.add_lit]
  refine wl_load hU (aget_put_same _ _ _ (by (first | rw [hN] | simp only [size_put, hN]); omega)) (hst.cell hc) ?_
  refine wl_assign (aget_put_same _ _ _ (by (first | rw [hN] | simp only [size_put, hN]); omega)) ?_
  refine wpList_nil ?_
  simp only [Exit.then]
  have hfr0 : Fr N lo t nt a (((((a.put (some t1) (.slice (some ⟨p, q, none⟩) n cap)).put (some (t1 + 1)) (.int .i64 k)).put (some (t1 + 2)) (.pointer (some ⟨p, q + k * esz, none⟩))).put (some (t1 + 3)) x).put (some v) x) :=
    (((((Fr.refl N lo t nt a).put _ _ (by omega)).put _ _ (by omega)).put _ _ (by omega)).put _ _ (by omega)).put _ _ (by omega)
  refine h w0 p (q + k * esz) x gv hrep hc _ w bs _ (hst.fr hfr0 hD) ((hh.tail.tail.fr hk (hfr0.to1 hD)).cons (aget_put_same _ _ _ (by (first | rw [hN] | simp only [size_put, hN]); omega))) hl fun a2 w2 hs2 hf2 => hq a2 w2 hs2 ((hfr0.to1 hD).trans (hf2.mono d6 d7))

/-- The loop over a list that lies in slot u. -/
def AppRange (RT : RTags) (P : Program) (N nt : Nat) (ver : Int) (flex : Bool) (K : Slots) (lo t u : Nat) (c : Code) (esz : Nat) (e : Sch) : Prop :=
  ∀ (w0 : World) (l : List GV) (ad : Option Addr) (cap : Nat), l.length ≤ 2147483647 → (l ≠ [] → ∃ p q, ad = some ⟨p, q, none⟩ ∧ p < w0.heap.size ∧ ∀ i v, l[i]? = some v → Rep RT [] w0 ver flex e p (q + i * esz) v) →
    App P N nt w0 ((u, .slice ad l.length cap) :: K) lo t c (l.flatMap (ap ver flex e))

/-- A list: 'v := s.F', its count, the loop. -/
theorem appF_list {ver : Int} {flex : Bool} {s v t1 T k U off r ty1 ty2 ty3 ty4 ty5 lo' t' esz : Nat} {p1 p2 p3 p4 p5 : String} {e1 e2 e3 e4 e5 : Array Edge} {c1 c2 : Code} {nul : Option Int} {e : Sch}
    (hk : KOK N lo t K) (hT : FieldAt P T k off) (hU : OneCell P U) (hD : Dims N nt lo t) (hd : t ≤ t1 ∧ t1 + 3 < nt ∧ lo ≤ v ∧ v < N ∧ v < lo' ∧ lo ≤ lo' ∧ t ≤ t' ∧ v ≠ 1)
    (hlen : AppLen P N nt flex K lo' t' v c1 nul) (hnul : nul.isSome = true → AppNul P N nt flex K lo' t' v c1) (hr : AppRange RT P N nt ver flex K lo' t' v c2 esz e) :
    AppF RT P N nt ver flex K lo t s ((Code.region r #[⟨some t1, .move (.tmp s), ty1, p1, e1, none⟩, ⟨some (t1 + 1), .nilCheck (.tmp t1), ty2, p2, e2, none⟩, ⟨some (t1 + 2), .fieldAddr T (.tmp (t1 + 1)) k, ty3, p3, e3, none⟩,
      ⟨some (t1 + 3), .load U (.tmp (t1 + 2)), ty4, p4, e4, none⟩, ⟨some v, .assign (.tmp (t1 + 3)), ty5, p5, e5, none⟩] false).seq (c1.seq c2)) off (.list nul esz e) := by
  intro w0 b o gv hrep a w bs Q hst hh hl hq
  obtain ⟨d1, d2, d3, d4, d5, d6, d7, d8⟩ := hd
  have hk' : KOK N lo' t' K := fun p hp => ⟨(hk p hp).1, (hk p hp).2.elim (fun h => .inl (by omega)) (fun h => .inr ⟨h.1, by omega⟩)⟩
  cases gv <;> simp only [Rep] at hrep <;> try exact hrep.elim
  · obtain ⟨hns, hc⟩ := hrep
    refine wp_seq (reg_load (x0 := nt) (lo := lo) hT hU hst.size hh.head (by rw [Addr.add_lit]; exact hst.cell hc) ⟨hD.dT, d1, d2, d3, d4⟩ fun a' hfr0 hx => ?_)
    have hfr := hfr0.to1 hD
    refine (App.seq (hk'.cons ⟨d8, .inl d5⟩) (hnul hns w0) ((hr w0 [] none 0 (by simp) (by simp)))) a' w bs _ (hst.fr hfr0 hD) ((hh.tail.fr hk hfr).cons hx) (by simpa [ap] using hl) fun a2 w2 hs2 hf2 => ?_
    exact hq a2 w2 (by simpa [ap] using hs2) (hfr.trans (hf2.mono d6 d7))
  · rename_i l
    obtain ⟨ad, cap, hc, hlen', hns, hel⟩ := hrep
    refine wp_seq (reg_load (x0 := nt) (lo := lo) hT hU hst.size hh.head (by rw [Addr.add_lit]; exact hst.cell hc) ⟨hD.dT, d1, d2, d3, d4⟩ fun a' hfr0 hx => ?_)
    have hfr := hfr0.to1 hD
    refine (App.seq (hk'.cons ⟨d8, .inl d5⟩) (hlen w0 ad l.length cap hlen' (by cases hb : nul.isSome; exact .inl rfl; exact .inr (hns hb))) (hr w0 l ad cap hlen' fun hne => ?_)) a' w bs _ (hst.fr hfr0 hD) ((hh.tail.fr hk hfr).cons hx) (by simpa [ap] using hl) fun a2 w2 hs2 hf2 => ?_
    · obtain ⟨p, q, h1, -, h2, h3⟩ := hel hne
      exact ⟨p, q, h1, h2, h3⟩
    exact hq a2 w2 (by simpa [ap] using hs2) (hfr.trans (hf2.mono d6 d7))

/-- The code c appends new and returns the bytes. -/
def AppR (P : Program) (N nt : Nat) (w0 : World) (K : Slots) (rs : Nat) (c : Code) (new : List UInt8) : Prop :=
  ∀ (a : Act) (w : World) (bs : List UInt8) (Q : Exit → Act → World → Prop), St nt w0 a w bs → Holds K a → bs.length + new.length ≤ lim →
    (∀ a' w', St nt w0 a' w' (bs ++ new) → aget a' rs = aget a' 1 → a'.defers = a.defers → Q .ret a' w') → c.wp P Q a w
def AppRS (RT : RTags) (P : Program) (N nt : Nat) (ver : Int) (flex : Bool) (K : Slots) (rs s : Nat) (c : Code) (f : Sch) : Prop :=
  ∀ (w0 : World) (b o : Nat) (v : GV), Rep RT [] w0 ver flex f b o v → AppR P N nt w0 ((s, .pointer (some ⟨b, o, none⟩)) :: K) rs c (ap ver flex f v)
theorem AppR.seq {c1 c2 : Code} {n1 n2 : List UInt8} {rs : Nat} (hk : KOK N lo t K) (h1 : App P N nt w0 K lo t c1 n1) (h2 : AppR P N nt w0 K rs c2 n2) : AppR P N nt w0 K rs (c1.seq c2) (n1 ++ n2) := by
  intro a w bs Q hst hh hl hq
  simp only [List.length_append] at hl
  refine wp_seq (h1 a w bs _ hst hh (by omega) fun a1 w1 hst1 hf1 => ?_)
  refine h2 a1 w1 _ _ hst1 (hh.fr hk hf1) (by simp only [List.length_append]; omega) fun a2 w2 hst2 hr2 hd2 => ?_
  rw [List.append_assoc] at hst2
  exact hq a2 w2 hst2 hr2 (hd2.trans hf1.defers)
theorem AppR.ret {rs t1 r ty1 ty2 : Nat} {p1 p2 : String} {e1 e2 : Array Edge} (hd : t1 < nt ∧ 1 < t1 ∧ rs ≠ 1 ∧ rs < nt) :
    AppR P N nt w0 K rs ((Code.region r #[⟨some t1, .move (.tmp 1), ty1, p1, e1, none⟩, ⟨some rs, .assign (.tmp t1), ty2, p2, e2, none⟩] false).seq .ret) [] := by
  intro a w bs Q hst hh hl hq
  have hN := hst.size
  refine wp_seq (wp_reg ?_)
  refine wl_move rfl ?_
  refine wl_assign (aget_put_same _ _ _ (by (first | rw [hN] | simp only [size_put, hN]); omega)) ?_
  refine wpList_nil (wp_ret (hq _ w ⟨by simp only [size_put, hN], ?_, hst.below⟩ ?_ rfl))
  · rw [aget_put_other _ _ _ _ (by omega), aget_put_other _ _ _ _ (by omega), List.append_nil]
    exact hst.own
  · rw [aget_put_same _ _ _ (by (first | rw [hN] | simp only [size_put, hN]); omega), aget_put_other _ _ _ _ (by omega), aget_put_other _ _ _ _ (by omega)]
theorem appRS_cons {ver : Int} {flex : Bool} {s off rs : Nat} {vlo : Int} {vhi : Option Int} {c1 c2 : Code} {f rest : Sch} (hk : KOK N lo t K) (hs : s ≠ 1 ∧ s < lo) (h1 : AppFV RT P N nt ver flex K lo t s c1 off vlo vhi f) (h2 : AppRS RT P N nt ver flex K rs s c2 rest) :
    AppRS RT P N nt ver flex K rs s (c1.seq c2) (.cons off vlo vhi f rest) := by
  intro w0 b o v hr
  cases v <;> simp only [Rep] at hr <;> try exact hr.elim
  rename_i v vs
  exact AppR.seq (hk.cons ⟨hs.1, .inl hs.2⟩) (h1 w0 b o v hr.1) (h2 w0 b o vs hr.2)
theorem appRS_end {ver : Int} {flex : Bool} {s rs : Nat} {c1 c2 : Code} {f : Sch} (hk : KOK N lo t K) (hs : s ≠ 1 ∧ s < lo) (h1 : AppS RT P N nt ver flex K lo t s c1 f) (h2 : ∀ w0 K, AppR P N nt w0 K rs c2 []) : AppRS RT P N nt ver flex K rs s (c1.seq c2) f := by
  intro w0 b o v hr
  have := AppR.seq (hk.cons ⟨hs.1, .inl hs.2⟩) (h1 w0 b o v hr) (h2 w0 _)
  rw [List.append_nil] at this
  exact this
end
end Go.Proofs.Ytkhpglongkhbjaa
