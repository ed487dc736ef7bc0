/- Shared texts of these proofs, laid together by merge.py: Appb, Appc, Rq, Rr, Tga, Tgb, Tgc. -/
import Derived.Test.YtmpilpgabelmiaaGreatDoorVb
import Derived.Laws.CopyOwn
import Derived.Test.YtmpilpgabelmiaaGreatDoorVd
import Derived.Test.YtmpilpgabelmiaaGreatDoorVc
import Derived.Maps.OwnSet
import Derived.Maps.RangeWalk
import Derived.WalkSpells
set_option linter.unusedVariables false
/- The code that writes a part, second half: tags, counts, things of lists, 16 octets, the end, the whole function. Any program. -/
namespace Go.Proofs.YtmpilpgabelmiaaGreatDoor
open Go Go.RowKit
set_option linter.unusedVariables false

theorem St.cell' {nt : Nat} {w0 : World} {a : Act} {w : World} {bs : List UInt8} (h : St nt w0 a w bs) {b o : Nat} {x : Value} (hc : w0.cell? ⟨b, o, none⟩ = some x) : w.cell? ⟨b, o, none⟩ = some x := h.cell hc

section
variable {RT : RTags} {P : Program} {N nt : Nat} {w0 : World} {K : Slots} {lo t : Nat}

/-- What is asked of the functions on tags: how many there are; what is written of them. -/
def TagsOK (RT : RTags) (P : Program) (FLen FEach : Nat) : Prop :=
  ∀ (w0 : World) (b o : Nat) (l : List (Nat × List UInt8)), RT [] w0 b o l → l.length ≤ 4294967295 ∧
    (∀ w, Below w0.heap.size w0 w → Calls P FLen #[.pointer (some ⟨b, o, none⟩)] w fun e w' => e = .returned (.int .i64 l.length) ∧ w = w') ∧
    (∀ (w : World) (v : Value) (bs : List UInt8), Below w0.heap.size w0 w → Own w0.heap.size w v bs → bs.length + (apTags l).length ≤ lim → Calls P FEach #[.pointer (some ⟨b, o, none⟩), v] w (Appended w0.heap.size w (bs ++ apTags l)))

theorem appS_tags {ver : Int} {flex : Bool} {s sf t0 t1 t2 k k' off T T' FLen FEach FU I U r0 r1 r2 ty0 ty1 ty2 ty3 ty4 ty5 ty6 ty7 ty8 ty9 ty10 ty11 ty12 ty13 ty14 ty15 J1 J2 : Nat} {p0 p1 p2 p3 p4 p5 p6 p7 p8 p9 p10 p11 p12 p13 p14 p15 : String} {e0 e1 e2 e3 e4 e5 e6 e7 e8 e9 e10 e11 e12 e13 e14 e15 : Array Edge} {at1 at2 at3 : Array TypeId}
    (hk : KOK N lo t K) (hs : s ≠ 1 ∧ s < lo) (hf : (sf, Value.bool flex) ∈ K) (hT : FieldAt P T k off) (hT' : FieldAt P T' k' off) (hI : P.underlying I = some (.int .i64)) (hU : P.underlying U = some (.int .u32))
    (hL : Enters P FLen) (hE : Enters P FEach) (hV : Enters P FU) (hTags : TagsOK RT P FLen FEach) (hUv : ∀ n : Nat, n ≤ 4294967295 → AppC P FU (.int .u32 n) (uv n)) (hD : Dims N nt lo t)
    (hd : t ≤ t0 ∧ t0 < nt ∧ t ≤ t1 ∧ t1 + 7 < nt ∧ t ≤ t2 ∧ t2 + 4 < nt) :
    AppS RT P N nt ver flex K lo t s
      ((Code.region r0 #[⟨some t0, .move (.tmp sf), ty0, p0, e0, none⟩] false).seq (.cond (.tmp t0)
        ((Code.region r1 #[⟨some t1, .move (.tmp 1), ty1, p1, e1, none⟩, ⟨some (t1 + 1), .move (.tmp s), ty2, p2, e2, none⟩, ⟨some (t1 + 2), .nilCheck (.tmp (t1 + 1)), ty3, p3, e3, none⟩, ⟨some (t1 + 3), .fieldAddr T (.tmp (t1 + 2)) k, ty4, p4, e4, none⟩,
          ⟨some (t1 + 4), .call { callee := .value (.func FLen), args := #[.tmp (t1 + 3)], argTypes := at1 }, ty5, p5, e5, none⟩, ⟨some (t1 + 5), .convert I U (.tmp (t1 + 4)), ty6, p6, e6, none⟩,
          ⟨some (t1 + 6), .binOp .add J1 (.const (.int .u32 0)) (.tmp (t1 + 5)) J2, ty7, p7, e7, none⟩, ⟨some (t1 + 7), .call { callee := .value (.func FU), args := #[.tmp t1, .tmp (t1 + 6)], argTypes := at2 }, ty8, p8, e8, none⟩, ⟨some 1, .assign (.tmp (t1 + 7)), ty9, p9, e9, none⟩] false).seq
        (.region r2 #[⟨some t2, .move (.tmp s), ty10, p10, e10, none⟩, ⟨some (t2 + 1), .nilCheck (.tmp t2), ty11, p11, e11, none⟩, ⟨some (t2 + 2), .fieldAddr T' (.tmp (t2 + 1)) k', ty12, p12, e12, none⟩, ⟨some (t2 + 3), .move (.tmp 1), ty13, p13, e13, none⟩,
          ⟨some (t2 + 4), .call { callee := .value (.func FEach), args := #[.tmp (t2 + 2), .tmp (t2 + 3)], argTypes := at3 }, ty14, p14, e14, none⟩, ⟨some 1, .assign (.tmp (t2 + 4)), ty15, p15, e15, none⟩] false))
        .skip)) (.tags off) := by
  intro w0 b o v hr
  cases v <;> simp only [Rep] at hr <;> try exact hr.elim
  rename_i l
  obtain ⟨d1, d2, d3, d4, d5, d6⟩ := hd
  obtain ⟨hlen, hL1, hE1⟩ := hTags w0 b (o + off) l hr
  have g1 := hD.dOne; have g2 := hD.dLo; have g3 := hD.dT; have g4 := hD.dN
  refine app_flag (hk.cons ⟨hs.1, .inl hs.2⟩) (List.mem_cons_of_mem _ hf) hD ⟨d1, d2⟩ (fun hfl => ?_) (fun hfl => ?_)
  · subst hfl
    refine (App.seq (n1 := uv l.length) (n2 := apTags l) (hk.cons ⟨hs.1, .inl hs.2⟩) ?_ ?_).of_eq (by simp [ap])
    · intro a w bs Q hst hh hl hq
      have hN := hst.size
      refine wp_reg ?_
      refine wl_move rfl ?_
      refine wl_move (v := .pointer (some ⟨b, o, none⟩)) (by rw [aget_put_other _ _ _ _ (by omega)]; exact hh.head) ?_
      refine wl_nilCheck (aget_put_same _ _ _ (by (first | rw [hN] | simp only [size_put, hN]); omega)) ?_
      refine wl_fieldAddr hT (aget_put_same _ _ _ (by (first | rw [hN] | simp only [size_put, hN]); omega)) ?_
      rw [Addr.add_lit]
      refine wl_call (R := fun e w' => e = .returned (.int .i64 l.length) ∧ w = w') hL ?_ ?_
      · simp only [List.map_toArray, List.map_cons, List.map_nil, aget_eval]
        rw [aget_put_same _ _ _ (by (first | rw [hN] | simp only [size_put, hN]); omega)]
        exact hL1 w hst.below
      rintro e w' ⟨rfl, rfl⟩
      refine ⟨_, rfl, ?_⟩
      refine wl_value (v := .int .u32 l.length) (w' := w) rfl ?_ ?_
      · have e1 : ∀ A : Act, aget A (t1 + 4) = .int .i64 l.length → (execOp A.eval ⟨some (t1 + 5), .convert I U (.tmp (t1 + 4)), ty6, p6, e6, none⟩).run P w = .ok (.value (.int .u32 l.length)) w := by
          intro A hA
          have e2 : A.eval (.tmp (t1 + 4)) = .int .i64 l.length := hA
          have e3 : IntKind.u32.wrap (l.length : Int) = l.length := by rw [IntKind.wrap_u32]; omega
          simp [execOp, e2, convert, run_underlying hI, run_underlying hU, Conv.intToInt, e3]
        exact e1 _ (aget_put_same _ _ _ (by (first | rw [hN] | simp only [size_put, hN]); omega))
      refine wl_value (v := .int .u32 l.length) (w' := w) rfl ?_ ?_
      · have e1 : ∀ A : Act, aget A (t1 + 5) = .int .u32 l.length → (execOp A.eval ⟨some (t1 + 6), .binOp .add J1 (.const (.int .u32 0)) (.tmp (t1 + 5)) J2, ty7, p7, e7, none⟩).run P w = .ok (.value (.int .u32 l.length)) w := by
          intro A hA
          have e2 : A.eval (.tmp (t1 + 5)) = .int .u32 l.length := hA
          have e4 : A.eval (.const (.int .u32 0)) = .int .u32 0 := rfl
          have e3 : IntKind.u32.wrap (l.length : Int) = l.length := by rw [IntKind.wrap_u32]; omega
          simp [execOp, e2, e4, eqGuard_at_int, binOp, Op.intArith, e3]
        exact e1 _ (aget_put_same _ _ _ (by (first | rw [hN] | simp only [size_put, hN]); omega))
      refine wl_call (R := Appended w0.heap.size w (bs ++ uv l.length)) hV ?_ ?_
      · simp only [List.map_toArray, List.map_cons, List.map_nil, aget_eval]
        rw [aget_put_other _ _ _ _ (by omega), aget_put_other _ _ _ _ (by omega), aget_put_other _ _ _ _ (by omega), aget_put_other _ _ _ _ (by omega), aget_put_other _ _ _ _ (by omega), aget_put_other _ _ _ _ (by omega),
          aget_put_same _ _ _ (by (first | rw [hN] | simp only [size_put, hN]); omega), aget_put_same _ _ _ (by (first | rw [hN] | simp only [size_put, hN]); omega)]
        exact hUv l.length (by omega) w0.heap.size w _ bs hst.own hst.below.size hl
      rintro e w' ⟨v', rfl, hown, hbel⟩
      refine ⟨v', rfl, ?_⟩
      refine wl_assign (aget_put_same _ _ _ (by (first | rw [hN] | simp only [size_put, hN]); omega)) ?_
      refine wpList_nil (hq _ _ ⟨by simp only [size_put, hN], ?_, hst.below.trans hbel⟩ (((((((((((Fr.refl N lo t 1 a).put _ _ (by omega)).put _ _ (by omega)).put _ _ (by omega)).put _ _ (by omega)).put _ _ (by omega)).put _ _ (by omega)).put _ _ (by omega)).put _ _ (by omega)).put _ _ (by omega))))
      rw [aget_put_same _ _ _ (by (first | rw [hN] | simp only [size_put, hN]); omega)]
      exact hown
    · intro a w bs Q hst hh hl hq
      have hN := hst.size
      refine wp_reg ?_
      refine wl_move (v := .pointer (some ⟨b, o, none⟩)) hh.head ?_
      refine wl_nilCheck (aget_put_same _ _ _ (by (first | rw [hN] | simp only [size_put, hN]); omega)) ?_
      refine wl_fieldAddr hT' (aget_put_same _ _ _ (by (first | rw [hN] | simp only [size_put, hN]); omega)) ?_
      rw [Addr.add_lit]
      refine wl_move (v := aget a 1) (by rw [aget_put_other _ _ _ _ (by omega), aget_put_other _ _ _ _ (by omega), aget_put_other _ _ _ _ (by omega)]) ?_
      refine wl_call (R := Appended w0.heap.size w (bs ++ apTags l)) hE ?_ ?_
      · simp only [List.map_toArray, List.map_cons, List.map_nil, aget_eval]
        rw [aget_put_other _ _ _ _ (by omega), aget_put_same _ _ _ (by (first | rw [hN] | simp only [size_put, hN]); omega), aget_put_same _ _ _ (by (first | rw [hN] | simp only [size_put, hN]); omega)]
        exact hE1 w _ bs hst.below hst.own hl
      rintro e w' ⟨v', rfl, hown, hbel⟩
      refine ⟨v', rfl, ?_⟩
      refine wl_assign (aget_put_same _ _ _ (by (first | rw [hN] | simp only [size_put, hN]); omega)) ?_
      refine wpList_nil (hq _ _ ⟨by simp only [size_put, hN], ?_, hst.below.trans hbel⟩ (((((((Fr.refl N lo t 1 a).put _ _ (by omega)).put _ _ (by omega)).put _ _ (by omega)).put _ _ (by omega)).put _ _ (by omega)).put _ _ (by omega)))
      rw [aget_put_same _ _ _ (by (first | rw [hN] | simp only [size_put, hN]); omega)]
      exact hown
  · subst hfl
    exact App.skip.of_eq (by simp [ap])

/-- 'dst = F(dst, len(v))'. -/
theorem app_len1 {u t1 F r T E ty1 ty2 ty3 ty4 ty5 : Nat} {p1 p2 p3 p4 p5 : String} {e1 e2 e3 e4 e5 : Array Edge} {at_ : Array TypeId} {ad : Option Addr} {n cap : Nat} {new : List UInt8}
    (hT : P.underlying T = some (.slice E)) (he : Enters P F) (hC : AppC P F (.int .i64 n) new) (hD : Dims N nt lo t) (hd : t ≤ t1 ∧ t1 + 3 < nt ∧ u ≠ t1) :
    App P N nt w0 ((u, .slice ad n cap) :: K) lo t (Code.region r #[⟨some t1, .move (.tmp 1), ty1, p1, e1, none⟩, ⟨some (t1 + 1), .move (.tmp u), ty2, p2, e2, none⟩,
      ⟨some (t1 + 2), .call { callee := .builtin .len, args := #[.tmp (t1 + 1)], argTypes := #[T] }, ty5, p5, e5, none⟩,
      ⟨some (t1 + 3), .call { callee := .value (.func F), args := #[.tmp t1, .tmp (t1 + 2)], argTypes := at_ }, ty3, p3, e3, none⟩, ⟨some 1, .assign (.tmp (t1 + 3)), ty4, p4, e4, none⟩] false) new := by
  intro a w bs Q hst hh hl hq
  obtain ⟨g1, g2, g3, g4⟩ := hD
  obtain ⟨h1, h2, h3⟩ := hd
  have hN := hst.size
  refine wp_reg ?_
  refine wl_move rfl ?_
  refine wl_move (v := .slice ad n cap) (by rw [aget_put_other _ _ _ _ (by omega)]; exact hh.head) ?_
  refine wl_len_slice hT (aget_put_same _ _ _ (by (first | rw [hN] | simp only [size_put, hN]); omega)) ?_
  refine wl_call (R := Appended w0.heap.size w (bs ++ new)) he ?_ ?_
  · simp only [List.map_toArray, List.map_cons, List.map_nil, aget_eval]
    rw [aget_put_other _ _ _ _ (by omega), aget_put_other _ _ _ _ (by omega), aget_put_same _ _ _ (by (first | rw [hN] | simp only [size_put, hN]); omega), aget_put_same _ _ _ (by (first | rw [hN] | simp only [size_put, hN]); omega)]
    exact hC w0.heap.size w _ bs hst.own hst.below.size hl
  · rintro e w' ⟨v', rfl, hown, hbel⟩
    refine ⟨v', rfl, ?_⟩
    refine wl_assign (aget_put_same _ _ _ (by (first | rw [hN] | simp only [size_put, hN]); omega)) ?_
    refine wpList_nil (hq _ _ ⟨by simp only [size_put, hN], ?_, hst.below.trans hbel⟩ ((((((Fr.refl N lo t 1 a).put _ _ (by omega)).put _ _ (by omega)).put _ _ (by omega)).put _ _ (by omega)).put _ _ (by omega)))
    rw [aget_put_same _ _ _ (by (first | rw [hN] | simp only [size_put, hN]); omega)]
    exact hown

/-- Function F, handed a count and whether it is null, appends new. -/
def AppC2 (P : Program) (f : Nat) (n : Nat) (nul : Bool) (new : List UInt8) : Prop :=
  ∀ (base : Nat) (w : World) (v : Value) (bs : List UInt8), Own base w v bs → base ≤ w.heap.size → bs.length + new.length ≤ lim → Calls P f #[v, .int .i64 n, .bool nul] w (Appended base w (bs ++ new))

theorem run_equalIn_slice_nil (w : World) (d : Nat) {T E : Nat} (hT : P.underlying T = some (.slice E)) (ad : Option Addr) (n c : Nat) : (Op.equalIn (d + 1) T (.slice ad n c) (.slice none 0 0)).run P w = .ok ad.isNone w := by
  cases ad <;> simp [Op.equalIn, run_underlying hT]
theorem run_eql_slice_nil' (w : World) {T E : Nat} (hT : P.underlying T = some (.slice E)) (ad : Option Addr) (n c : Nat) : (binOp .eql T (.slice ad n c) (.slice none 0 0)).run P w = .ok (.bool ad.isNone) w := by
  simp only [binOp, Op.equal, Op.maxDepth]
  simp [run_equalIn_slice_nil w 9999 hT ad n c]

/-- 'dst = F(dst, len(v), v == nil)'. -/
theorem app_len2 {u t1 F r T E T2 U2 ty1 ty2 ty3 ty4 ty5 ty6 ty7 : Nat} {p1 p2 p3 p4 p5 p6 p7 : String} {e1 e2 e3 e4 e5 e6 e7 : Array Edge} {at_ : Array TypeId} {ad : Option Addr} {n cap : Nat} {new : List UInt8}
    (hT : P.underlying T = some (.slice E)) (hT2 : P.underlying T2 = some (.slice E)) (he : Enters P F) (hC : AppC2 P F n ad.isNone new) (hD : Dims N nt lo t) (hd : t ≤ t1 ∧ t1 + 5 < nt ∧ u ≠ t1 ∧ u ≠ t1 + 1 ∧ u ≠ t1 + 2) :
    App P N nt w0 ((u, .slice ad n cap) :: K) lo t (Code.region r #[⟨some t1, .move (.tmp 1), ty1, p1, e1, none⟩, ⟨some (t1 + 1), .move (.tmp u), ty2, p2, e2, none⟩,
      ⟨some (t1 + 2), .call { callee := .builtin .len, args := #[.tmp (t1 + 1)], argTypes := #[T] }, ty5, p5, e5, none⟩, ⟨some (t1 + 3), .move (.tmp u), ty6, p6, e6, none⟩,
      ⟨some (t1 + 4), .binOp .eql T2 (.tmp (t1 + 3)) (.const (.slice none 0 0)) U2, ty7, p7, e7, none⟩,
      ⟨some (t1 + 5), .call { callee := .value (.func F), args := #[.tmp t1, .tmp (t1 + 2), .tmp (t1 + 4)], argTypes := at_ }, ty3, p3, e3, none⟩, ⟨some 1, .assign (.tmp (t1 + 5)), ty4, p4, e4, none⟩] false) new := by
  intro a w bs Q hst hh hl hq
  obtain ⟨g1, g2, g3, g4⟩ := hD
  obtain ⟨h1, h2, h3, h4, h5⟩ := hd
  have hN := hst.size
  refine wp_reg ?_
  refine wl_move rfl ?_
  refine wl_move (v := .slice ad n cap) (by rw [aget_put_other _ _ _ _ (by omega)]; exact hh.head) ?_
  refine wl_len_slice hT (aget_put_same _ _ _ (by (first | rw [hN] | simp only [size_put, hN]); omega)) ?_
  refine wl_move (v := .slice ad n cap) (by rw [aget_put_other _ _ _ _ (by omega), aget_put_other _ _ _ _ (by omega), aget_put_other _ _ _ _ (by omega)]; exact hh.head) ?_
  refine wl_bin (r := .bool ad.isNone) (aget_put_same _ _ _ (by (first | rw [hN] | simp only [size_put, hN]); omega)) (eqGuard_at_slice ..) (run_eql_slice_nil' w hT2 ad n cap) ?_
  refine wl_call (R := Appended w0.heap.size w (bs ++ new)) he ?_ ?_
  · simp only [List.map_toArray, List.map_cons, List.map_nil, aget_eval]
    rw [aget_put_other _ _ _ _ (by omega), aget_put_other _ _ _ _ (by omega), aget_put_other _ _ _ _ (by omega), aget_put_other _ _ _ _ (by omega), aget_put_same _ _ _ (by (first | rw [hN] | simp only [size_put, hN]); omega),
      aget_put_other _ _ _ _ (by omega), aget_put_other _ _ _ _ (by omega), aget_put_same _ _ _ (by (first | rw [hN] | simp only [size_put, hN]); omega), aget_put_same _ _ _ (by (first | rw [hN] | simp only [size_put, hN]); omega)]
    exact hC w0.heap.size w _ bs hst.own hst.below.size hl
  · rintro e w' ⟨v', rfl, hown, hbel⟩
    refine ⟨v', rfl, ?_⟩
    refine wl_assign (aget_put_same _ _ _ (by (first | rw [hN] | simp only [size_put, hN]); omega)) ?_
    refine wpList_nil (hq _ _ ⟨by simp only [size_put, hN], ?_, hst.below.trans hbel⟩ ((((((((Fr.refl N lo t 1 a).put _ _ (by omega)).put _ _ (by omega)).put _ _ (by omega)).put _ _ (by omega)).put _ _ (by omega)).put _ _ (by omega)).put _ _ (by omega)))
    rw [aget_put_same _ _ _ (by (first | rw [hN] | simp only [size_put, hN]); omega)]
    exact hown

/-- A part of a list: 'v := &v[i]', and what is written of it. -/
theorem appEl_part {ver : Int} {flex : Bool} {u i v t1 T E r ty1 ty2 ty3 ty4 esz lo' t' : Nat} {p1 p2 p3 p4 : String} {e1 e2 e3 e4 : Array Edge} {c : Code} {e : Sch}
    (hk : KOK N lo t K) (hT : P.underlying T = some (.slice E)) (hE : ∃ i, P.info? E = some i ∧ i.size = esz) (hD : Dims N nt lo t) (hd : t ≤ t1 ∧ t1 + 2 < nt ∧ lo ≤ v ∧ v < N ∧ v < lo' ∧ lo ≤ lo' ∧ t ≤ t' ∧ i ≠ t1)
    (h : AppS RT P N nt ver flex K lo' t' v c e) :
    AppEl RT P N nt ver flex K lo t u i ((Code.region r #[⟨some t1, .move (.tmp u), ty1, p1, e1, none⟩, ⟨some (t1 + 1), .move (.tmp i), ty2, p2, e2, none⟩, ⟨some (t1 + 2), .indexAddr T (.tmp t1) (.tmp (t1 + 1)), ty3, p3, e3, none⟩,
      ⟨some v, .assign (.tmp (t1 + 2)), ty4, p4, e4, none⟩] false).seq c) esz e := by
  intro w0 p q n cap k gv hkn hp hrep a w bs Q hst hh hl hq
  obtain ⟨d1, d2, d3, d4, d5, d6, d7, d8⟩ := hd
  have g2 := hD.dLo; have g3 := hD.dT; have g4 := hD.dN
  have hN := hst.size
  refine wp_seq (wp_reg ?_)
  refine wl_move hh.tail.head ?_
  refine wl_move (v := .int .i64 k) (by rw [aget_put_other _ _ _ _ (by omega)]; exact hh.head) ?_
  refine wl_index (k := k) hT hE hkn (by rw [aget_put_other _ _ _ _ (by omega)]; exact aget_put_same _ _ _ (by (first | rw [hN] | simp only [size_put, hN]); omega)) (aget_put_same _ _ _ (by (first | rw [hN] | simp only [size_put, hN]); omega)) ?_
  rw [Addr.add_lit]
  refine wl_assign (aget_put_same _ _ _ (by (first | rw [hN] | simp only [size_put, hN]); omega)) ?_
  refine wpList_nil ?_
  simp only [Exit.then]
  have hfr0 : Fr N lo t nt a ((((a.put (some t1) (.slice (some ⟨p, q, none⟩) n cap)).put (some (t1 + 1)) (.int .i64 k)).put (some (t1 + 2)) (.pointer (some ⟨p, q + k * esz, none⟩))).put (some v) (.pointer (some ⟨p, q + k * esz, none⟩))) :=
    ((((Fr.refl N lo t nt a).put _ _ (by omega)).put _ _ (by omega)).put _ _ (by omega)).put _ _ (by omega)
  refine h w0 p (q + k * esz) gv hrep _ w bs _ (hst.fr hfr0 hD) ((hh.tail.tail.fr hk (hfr0.to1 hD)).cons (aget_put_same _ _ _ (by (first | rw [hN] | simp only [size_put, hN]); omega))) hl fun a2 w2 hs2 hf2 => hq a2 w2 hs2 ((hfr0.to1 hD).trans (hf2.mono d6 d7))

/-- A value of a list: 'v := v[i]', and what is written of it. -/
theorem appEl_leaf {ver : Int} {flex : Bool} {u i v t1 T E U r ty1 ty2 ty3 ty4 ty5 esz lo' t' : Nat} {p1 p2 p3 p4 p5 : String} {e1 e2 e3 e4 e5 : Array Edge} {c : Code} {lf : Leaf}
    (hk : KOK N lo t K) (hT : P.underlying T = some (.slice E)) (hE : ∃ i, P.info? E = some i ∧ i.size = esz) (hU : OneCell P U) (hD : Dims N nt lo t) (hd : t ≤ t1 ∧ t1 + 3 < nt ∧ lo ≤ v ∧ v < N ∧ v < lo' ∧ lo ≤ lo' ∧ t ≤ t' ∧ i ≠ t1) (hlf : lf ≠ .uuid)
    (h : AppL P N nt ver flex K lo' t' v c lf) :
    AppEl RT P N nt ver flex K lo t u i ((Code.region r #[⟨some t1, .move (.tmp u), ty1, p1, e1, none⟩, ⟨some (t1 + 1), .move (.tmp i), ty2, p2, e2, none⟩, ⟨some (t1 + 2), .indexAddr T (.tmp t1) (.tmp (t1 + 1)), ty3, p3, e3, none⟩,
      ⟨some (t1 + 3), .load U (.tmp (t1 + 2)), ty4, p4, e4, none⟩, ⟨some v, .assign (.tmp (t1 + 3)), ty5, p5, e5, none⟩] false).seq c) esz (.leaf lf) := by
  intro w0 p q n cap k gv hkn hp hrep a w bs Q hst hh hl hq
  obtain ⟨x, hc⟩ := RepLeaf.hasCell hrep hlf
  obtain ⟨d1, d2, d3, d4, d5, d6, d7, d8⟩ := hd
  have g2 := hD.dLo; have g3 := hD.dT; have g4 := hD.dN
  have hN := hst.size
  refine wp_seq (wp_reg ?_)
  refine wl_move hh.tail.head ?_
  refine wl_move (v := .int .i64 k) (by rw [aget_put_other _ _ _ _ (by omega)]; exact hh.head) ?_
  refine wl_index (k := k) hT hE hkn (by rw [aget_put_other _ _ _ _ (by omega)]; exact aget_put_same _ _ _ (by (first | rw [hN] | simp only [size_put, hN]); omega)) (aget_put_same _ _ _ (by (first | rw [hN] | simp only [size_put, hN]); omega)) ?_
  rw [Addr.add_lit]
  refine wl_load hU (aget_put_same _ _ _ (by (first | rw [hN] | simp only [size_put, hN]); omega)) (hst.cell hc) ?_
  refine wl_assign (aget_put_same _ _ _ (by (first | rw [hN] | simp only [size_put, hN]); omega)) ?_
  refine wpList_nil ?_
  simp only [Exit.then]
  have hfr0 : Fr N lo t nt a (((((a.put (some t1) (.slice (some ⟨p, q, none⟩) n cap)).put (some (t1 + 1)) (.int .i64 k)).put (some (t1 + 2)) (.pointer (some ⟨p, q + k * esz, none⟩))).put (some (t1 + 3)) x).put (some v) x) :=
    (((((Fr.refl N lo t nt a).put _ _ (by omega)).put _ _ (by omega)).put _ _ (by omega)).put _ _ (by omega)).put _ _ (by omega)
  refine h w0 p (q + k * esz) x gv hrep hc _ w bs _ (hst.fr hfr0 hD) ((hh.tail.tail.fr hk (hfr0.to1 hD)).cons (aget_put_same _ _ _ (by (first | rw [hN] | simp only [size_put, hN]); omega))) hl fun a2 w2 hs2 hf2 => hq a2 w2 hs2 ((hfr0.to1 hD).trans (hf2.mono d6 d7))

/-- The loop over a list that lies in slot u. -/
def AppRange (RT : RTags) (P : Program) (N nt : Nat) (ver : Int) (flex : Bool) (K : Slots) (lo t u : Nat) (c : Code) (esz : Nat) (e : Sch) : Prop :=
  ∀ (w0 : World) (l : List GV) (ad : Option Addr) (cap : Nat), l.length ≤ 2147483647 → (l ≠ [] → ∃ p q, ad = some ⟨p, q, none⟩ ∧ p < w0.heap.size ∧ ∀ i v, l[i]? = some v → Rep RT [] w0 ver flex e p (q + i * esz) v) →
    App P N nt w0 ((u, .slice ad l.length cap) :: K) lo t c (l.flatMap (ap ver flex e))

/-- A list: 'v := s.F', its count, the loop. -/
theorem appF_list {ver : Int} {flex : Bool} {s v t1 T k U off r ty1 ty2 ty3 ty4 ty5 lo' t' esz : Nat} {p1 p2 p3 p4 p5 : String} {e1 e2 e3 e4 e5 : Array Edge} {c1 c2 : Code} {nul : Option Int} {e : Sch}
    (hk : KOK N lo t K) (hT : FieldAt P T k off) (hU : OneCell P U) (hD : Dims N nt lo t) (hd : t ≤ t1 ∧ t1 + 3 < nt ∧ lo ≤ v ∧ v < N ∧ v < lo' ∧ lo ≤ lo' ∧ t ≤ t' ∧ v ≠ 1)
    (hlen : AppLen P N nt flex K lo' t' v c1 nul) (hnul : nul.isSome = true → AppNul P N nt flex K lo' t' v c1) (hr : AppRange RT P N nt ver flex K lo' t' v c2 esz e) :
    AppF RT P N nt ver flex K lo t s ((Code.region r #[⟨some t1, .move (.tmp s), ty1, p1, e1, none⟩, ⟨some (t1 + 1), .nilCheck (.tmp t1), ty2, p2, e2, none⟩, ⟨some (t1 + 2), .fieldAddr T (.tmp (t1 + 1)) k, ty3, p3, e3, none⟩,
      ⟨some (t1 + 3), .load U (.tmp (t1 + 2)), ty4, p4, e4, none⟩, ⟨some v, .assign (.tmp (t1 + 3)), ty5, p5, e5, none⟩] false).seq (c1.seq c2)) off (.list nul esz e) := by
  intro w0 b o gv hrep a w bs Q hst hh hl hq
  obtain ⟨d1, d2, d3, d4, d5, d6, d7, d8⟩ := hd
  have hk' : KOK N lo' t' K := fun p hp => ⟨(hk p hp).1, (hk p hp).2.elim (fun h => .inl (by omega)) (fun h => .inr ⟨h.1, by omega⟩)⟩
  cases gv <;> simp only [Rep] at hrep <;> try exact hrep.elim
  · obtain ⟨hns, hc⟩ := hrep
    refine wp_seq (reg_load (x0 := nt) (lo := lo) hT hU hst.size hh.head (by rw [Addr.add_lit]; exact hst.cell hc) ⟨hD.dT, d1, d2, d3, d4⟩ fun a' hfr0 hx => ?_)
    have hfr := hfr0.to1 hD
    refine (App.seq (hk'.cons ⟨d8, .inl d5⟩) (hnul hns w0) ((hr w0 [] none 0 (by simp) (by simp)))) a' w bs _ (hst.fr hfr0 hD) ((hh.tail.fr hk hfr).cons hx) (by simpa [ap] using hl) fun a2 w2 hs2 hf2 => ?_
    exact hq a2 w2 (by simpa [ap] using hs2) (hfr.trans (hf2.mono d6 d7))
  · rename_i l
    obtain ⟨ad, cap, hc, hlen', hns, hel⟩ := hrep
    refine wp_seq (reg_load (x0 := nt) (lo := lo) hT hU hst.size hh.head (by rw [Addr.add_lit]; exact hst.cell hc) ⟨hD.dT, d1, d2, d3, d4⟩ fun a' hfr0 hx => ?_)
    have hfr := hfr0.to1 hD
    refine (App.seq (hk'.cons ⟨d8, .inl d5⟩) (hlen w0 ad l.length cap hlen' (by cases hb : nul.isSome; exact .inl rfl; exact .inr (hns hb))) (hr w0 l ad cap hlen' fun hne => ?_)) a' w bs _ (hst.fr hfr0 hD) ((hh.tail.fr hk hfr).cons hx) (by simpa [ap] using hl) fun a2 w2 hs2 hf2 => ?_
    · obtain ⟨p, q, h1, -, h2, h3⟩ := hel hne
      exact ⟨p, q, h1, h2, h3⟩
    exact hq a2 w2 (by simpa [ap] using hs2) (hfr.trans (hf2.mono d6 d7))

/-- The code c appends new and returns the bytes. -/
def AppR (P : Program) (N nt : Nat) (w0 : World) (K : Slots) (rs : Nat) (c : Code) (new : List UInt8) : Prop :=
  ∀ (a : Act) (w : World) (bs : List UInt8) (Q : Exit → Act → World → Prop), St nt w0 a w bs → Holds K a → bs.length + new.length ≤ lim →
    (∀ a' w', St nt w0 a' w' (bs ++ new) → aget a' rs = aget a' 1 → a'.defers = a.defers → Q .ret a' w') → c.wp P Q a w
def AppRS (RT : RTags) (P : Program) (N nt : Nat) (ver : Int) (flex : Bool) (K : Slots) (rs s : Nat) (c : Code) (f : Sch) : Prop :=
  ∀ (w0 : World) (b o : Nat) (v : GV), Rep RT [] w0 ver flex f b o v → AppR P N nt w0 ((s, .pointer (some ⟨b, o, none⟩)) :: K) rs c (ap ver flex f v)
theorem AppR.seq {c1 c2 : Code} {n1 n2 : List UInt8} {rs : Nat} (hk : KOK N lo t K) (h1 : App P N nt w0 K lo t c1 n1) (h2 : AppR P N nt w0 K rs c2 n2) : AppR P N nt w0 K rs (c1.seq c2) (n1 ++ n2) := by
  intro a w bs Q hst hh hl hq
  simp only [List.length_append] at hl
  refine wp_seq (h1 a w bs _ hst hh (by omega) fun a1 w1 hst1 hf1 => ?_)
  refine h2 a1 w1 _ _ hst1 (hh.fr hk hf1) (by simp only [List.length_append]; omega) fun a2 w2 hst2 hr2 hd2 => ?_
  rw [List.append_assoc] at hst2
  exact hq a2 w2 hst2 hr2 (hd2.trans hf1.defers)
theorem AppR.ret {rs t1 r ty1 ty2 : Nat} {p1 p2 : String} {e1 e2 : Array Edge} (hd : t1 < nt ∧ 1 < t1 ∧ rs ≠ 1 ∧ rs < nt) :
    AppR P N nt w0 K rs ((Code.region r #[⟨some t1, .move (.tmp 1), ty1, p1, e1, none⟩, ⟨some rs, .assign (.tmp t1), ty2, p2, e2, none⟩] false).seq .ret) [] := by
  intro a w bs Q hst hh hl hq
  have hN := hst.size
  refine wp_seq (wp_reg ?_)
  refine wl_move rfl ?_
  refine wl_assign (aget_put_same _ _ _ (by (first | rw [hN] | simp only [size_put, hN]); omega)) ?_
  refine wpList_nil (wp_ret (hq _ w ⟨by simp only [size_put, hN], ?_, hst.below⟩ ?_ rfl))
  · rw [aget_put_other _ _ _ _ (by omega), aget_put_other _ _ _ _ (by omega), List.append_nil]
    exact hst.own
  · rw [aget_put_same _ _ _ (by (first | rw [hN] | simp only [size_put, hN]); omega), aget_put_other _ _ _ _ (by omega), aget_put_other _ _ _ _ (by omega)]
theorem appRS_cons {ver : Int} {flex : Bool} {s off rs : Nat} {vlo : Int} {vhi : Option Int} {c1 c2 : Code} {f rest : Sch} (hk : KOK N lo t K) (hs : s ≠ 1 ∧ s < lo) (h1 : AppFV RT P N nt ver flex K lo t s c1 off vlo vhi f) (h2 : AppRS RT P N nt ver flex K rs s c2 rest) :
    AppRS RT P N nt ver flex K rs s (c1.seq c2) (.cons off vlo vhi f rest) := by
  intro w0 b o v hr
  cases v <;> simp only [Rep] at hr <;> try exact hr.elim
  rename_i v vs
  exact AppR.seq (hk.cons ⟨hs.1, .inl hs.2⟩) (h1 w0 b o v hr.1) (h2 w0 b o vs hr.2)
theorem appRS_end {ver : Int} {flex : Bool} {s rs : Nat} {c1 c2 : Code} {f : Sch} (hk : KOK N lo t K) (hs : s ≠ 1 ∧ s < lo) (h1 : AppS RT P N nt ver flex K lo t s c1 f) (h2 : ∀ w0 K, AppR P N nt w0 K rs c2 []) : AppRS RT P N nt ver flex K rs s (c1.seq c2) f := by
  intro w0 b o v hr
  have := AppR.seq (hk.cons ⟨hs.1, .inl hs.2⟩) (h1 w0 b o v hr) (h2 w0 _)
  rw [List.append_nil] at this
  exact this
end
end Go.Proofs.YtmpilpgabelmiaaGreatDoor

/- The code that writes a part, third part: 16 octets, named numbers, a text that may be null from a version on, a part that may be null; the whole function. Any program. -/
namespace Go.Proofs.YtmpilpgabelmiaaGreatDoor
open Go Go.RowKit

section
variable {RT : RTags} {P : Program} {N nt : Nat} {w0 : World} {K : Slots} {lo t : Nat}

/-- A variable of type U is so many cells. -/
structure ManyCells (P : Program) (U n : Nat) : Prop where
  agg : ∀ w, (isAgg U).run P w = .ok true w
  info : ∃ i z, P.info? U = some i ∧ i.size = n ∧ i.zero = some (.agg z) ∧ z.size = n

theorem run_load_many {U n : Nat} (hU : ManyCells P U n) {w : World} {ad : Addr} {l : List Value} (hl : l.length = n) (hc : ∀ j v, l[j]? = some v → w.cell? (ad.add j) = some v) : (Instr.loadAt U (.pointer (some ad))).run P w = .ok (.agg l.toArray) w := by
  obtain ⟨i, z, hi, hs, -, -⟩ := hU.info
  have h := run_loadCells_list (P := P) w ad l hc
  rw [hl, ← hs] at h
  simp [Instr.loadAt, Instr.sureAddr, loadVar, hU.agg w, sizeOf, typeInfo, hi, h]
theorem run_alloc_many {U n : Nat} (hU : ManyCells P U n) (w : World) : ∃ z : Array Value, z.size = n ∧ (Instr.alloc U true (.tuple #[])).run P w = .ok (.pointer (some ⟨w.heap.size, 0, none⟩)) (w.alloc (.cells z U)) := by
  obtain ⟨i, z, hi, hs, hz, hzs⟩ := hU.info
  exact ⟨z, hzs, by simp [Instr.alloc, zeroValue, typeInfo, hi, hz, newVar, newRow, Value.cells]⟩
theorem run_store_many {U n : Nat} (hU : ManyCells P U n) {w : World} {g : Nat} {cur : Array Value} {T : Nat} (hg : w.heap[g]? = some (.cells cur T (0, 0))) (hcur : cur.size = n) {l : List Value} (hl : l.length = n) (h1 : ∀ v ∈ l, v.oneCell' = true) :
    (Instr.storeAt U (.pointer (some ⟨g, 0, none⟩)) (.agg l.toArray)).run P w = .ok () (w.setRow g l.toArray) := by
  obtain ⟨i, z, hi, hs, -, -⟩ := hU.info
  have h := run_storeCells_at P g 0 T l 0 cur w hg (by omega) h1
  have e : (cur.toList.take (0 + 0) ++ l ++ cur.toList.drop (0 + 0 + l.length)).toArray = l.toArray := by
    rw [List.drop_eq_nil_of_le (by simp; omega)]
    simp
  rw [e] at h
  simp [Instr.storeAt, Instr.sureAddr, storeVar, sizeOf, typeInfo, hi, Value.cells, hl, hs, h]

theorem reg_uuid2 {v t2 U F r' ty7 ty8 ty9 ty10 : Nat} {p7 p8 p9 p10 : String} {e7 e8 e9 e10 : Array Edge} {at_ : Array TypeId} {a a1 : Act} {w1 : World} {bs u : List UInt8} {g T0 : Nat} {Q : Exit → Act → World → Prop}
    (hU : ManyCells P U 16) (he : Enters P F) (hF : ∀ u : List UInt8, u.length = 16 → AppC P F (.agg (u.map byteV).toArray) u) (hu : u.length = 16) (hblk : Blk w1 g (u.map byteV) T0) (hbel : Below w0.heap.size w0 w1) (hown : Own w0.heap.size w1 (aget a 1) bs)
    (h11 : aget a1 1 = aget a 1) (hN1 : a1.tmps.size = nt) (hv1 : aget a1 v = .pointer (some ⟨g, 0, none⟩)) (hd : t ≤ t2 ∧ t2 + 2 < nt ∧ v ≠ t2 ∧ 1 < lo ∧ lo ≤ N ∧ N ≤ t ∧ t ≤ nt) (hl : bs.length + u.length ≤ lim)
    (hq : ∀ a' w', St nt w0 a' w' (bs ++ u) → Fr N lo t 1 a1 a' → Q .normal a' w') :
    (Code.region r' #[⟨some t2, .move (.tmp 1), ty7, p7, e7, none⟩, ⟨some (t2 + 1), .load U (.tmp v), ty8, p8, e8, none⟩, ⟨some (t2 + 2), .call { callee := .value (.func F), args := #[.tmp t2, .tmp (t2 + 1)], argTypes := at_ }, ty9, p9, e9, none⟩,
        ⟨some 1, .assign (.tmp (t2 + 2)), ty10, p10, e10, none⟩] false).wp P Q a1 w1 := by
  obtain ⟨d5, d6, d7, g1, g2, g3, g4⟩ := hd
  refine wp_reg ?_
  refine wl_move rfl ?_
  refine wl_value (v := .agg (u.map byteV).toArray) (w' := w1) rfl ?_ ?_
  · have e1 : ∀ A : Act, aget A v = .pointer (some ⟨g, 0, none⟩) → (execOp A.eval ⟨some (t2 + 1), .load U (.tmp v), ty8, p8, e8, none⟩).run P w1 = .ok (.value (.agg (u.map byteV).toArray)) w1 := by
      intro A hA
      have e2 : A.eval (.tmp v) = .pointer (some ⟨g, 0, none⟩) := hA
      have := run_load_many (P := P) hU (w := w1) (ad := ⟨g, 0, none⟩) (l := u.map byteV) (by simpa using hu) (fun j x hx => by
        rw [Addr.add_lit, Nat.zero_add]
        exact hblk.cell_some hx)
      simp [execOp, e2, this]
    exact e1 _ (by rw [aget_put_other _ _ _ _ (by omega)]; exact hv1)
  refine wl_call (R := Appended w0.heap.size w1 (bs ++ u)) he ?_ ?_
  · simp only [List.map_toArray, List.map_cons, List.map_nil, aget_eval]
    rw [aget_put_other _ _ _ _ (by omega), aget_put_same _ _ _ (by omega), aget_put_same _ _ _ (by simp only [size_put]; omega), h11]
    exact hF u hu w0.heap.size w1 _ bs hown hbel.size hl
  rintro e w' ⟨v', rfl, hown', hbel'⟩
  refine ⟨v', rfl, ?_⟩
  refine wl_assign (aget_put_same _ _ _ (by simp only [size_put]; omega)) ?_
  refine wpList_nil (hq _ _ ⟨by simp only [size_put, hN1], ?_, hbel.trans hbel'⟩ (((((Fr.refl N lo t 1 a1).put _ _ (by omega)).put _ _ (by omega)).put _ _ (by omega)).put _ _ (by omega)))
  rw [aget_put_same _ _ _ (by simp only [size_put]; omega)]
  exact hown'

/-- '{ v := s.F; dst = AppendUuid(dst, v) }'. -/
theorem appF_uuid {ver : Int} {flex : Bool} {s v t1 t2 T k U F off r r' ty1 ty2 ty3 ty4 ty5 ty6 ty7 ty8 ty9 ty10 : Nat} {p1 p2 p3 p4 p5 p6 p7 p8 p9 p10 : String} {e1 e2 e3 e4 e5 e6 e7 e8 e9 e10 : Array Edge} {at_ : Array TypeId}
    (hT : FieldAt P T k off) (hU : ManyCells P U 16) (he : Enters P F) (hF : ∀ u : List UInt8, u.length = 16 → AppC P F (.agg (u.map byteV).toArray) u) (hD : Dims N nt lo t) (hd : t ≤ t1 ∧ t1 + 3 < nt ∧ lo ≤ v ∧ v < N ∧ t ≤ t2 ∧ t2 + 2 < nt ∧ v ≠ t2 ∧ v ≠ 1) :
    AppF RT P N nt ver flex K lo t s ((Code.region r #[⟨some t1, .move (.tmp s), ty1, p1, e1, none⟩, ⟨some (t1 + 1), .nilCheck (.tmp t1), ty2, p2, e2, none⟩, ⟨some (t1 + 2), .fieldAddr T (.tmp (t1 + 1)) k, ty3, p3, e3, none⟩,
      ⟨some (t1 + 3), .load U (.tmp (t1 + 2)), ty4, p4, e4, none⟩, ⟨some v, .alloc U, ty5, p5, e5, none⟩, ⟨none, .store U (.tmp v) (.tmp (t1 + 3)), ty6, p6, e6, none⟩] false).seq
      (.region r' #[⟨some t2, .move (.tmp 1), ty7, p7, e7, none⟩, ⟨some (t2 + 1), .load U (.tmp v), ty8, p8, e8, none⟩, ⟨some (t2 + 2), .call { callee := .value (.func F), args := #[.tmp t2, .tmp (t2 + 1)], argTypes := at_ }, ty9, p9, e9, none⟩,
        ⟨some 1, .assign (.tmp (t2 + 2)), ty10, p10, e10, none⟩] false)) off (.leaf .uuid) := by
  intro w0 b o gv hrep a w bs Q hst hh hl hq
  cases gv <;> simp only [Rep, RepLeaf] at hrep <;> try exact hrep.elim
  rename_i u
  obtain ⟨hu, hc⟩ := hrep
  obtain ⟨d1, d2, d3, d4, d5, d6, d7, d8⟩ := hd
  obtain ⟨g1, g2, g3, g4⟩ := hD
  have hN := hst.size
  have hone : ∀ x ∈ u.map byteV, x.oneCell' = true := by
    intro x hx
    obtain ⟨_, _, rfl⟩ := List.mem_map.1 hx
    rfl
  refine wp_seq (wp_reg ?_)
  refine wl_move hh.head ?_
  refine wl_nilCheck (aget_put_same _ _ _ (by (first | rw [hN] | simp only [size_put, hN]); omega)) ?_
  refine wl_fieldAddr hT (aget_put_same _ _ _ (by (first | rw [hN] | simp only [size_put, hN]); omega)) ?_
  rw [Addr.add_lit]
  refine wl_value (v := .agg (u.map byteV).toArray) (w' := w) rfl ?_ ?_
  · have e1 : ∀ A : Act, aget A (t1 + 2) = .pointer (some ⟨b, o + off, none⟩) → (execOp A.eval ⟨some (t1 + 3), .load U (.tmp (t1 + 2)), ty4, p4, e4, none⟩).run P w = .ok (.value (.agg (u.map byteV).toArray)) w := by
      intro A hA
      have e2 : A.eval (.tmp (t1 + 2)) = .pointer (some ⟨b, o + off, none⟩) := hA
      have := run_load_many (P := P) hU (w := w) (ad := ⟨b, o + off, none⟩) (l := u.map byteV) (by simpa using hu) (fun j x hx => by
        rw [Addr.add_lit]
        rw [List.getElem?_map] at hx
        cases hj : u[j]? with
        | none => simp [hj] at hx
        | some y =>
          rw [hj] at hx
          cases hx
          exact hst.cell (hc j y hj))
      simp [execOp, e2, this]
    exact e1 _ (aget_put_same _ _ _ (by (first | rw [hN] | simp only [size_put, hN]); omega))
  obtain ⟨z, hz, hza⟩ := run_alloc_many (P := P) hU w
  refine wl_value (v := .pointer (some ⟨w.heap.size, 0, none⟩)) (w' := w.alloc (.cells z U)) rfl (by simp [execOp, hza]) ?_
  obtain ⟨w1, hrun, hblk, hbel, hown⟩ : ∃ w1, (Instr.storeAt U (.pointer (some ⟨w.heap.size, 0, none⟩)) (.agg (u.map byteV).toArray)).run P (w.alloc (.cells z U)) = .ok () w1 ∧ Blk w1 w.heap.size (u.map byteV) U ∧
      Below w0.heap.size w0 w1 ∧ Own w0.heap.size w1 (aget a 1) bs := by
    refine ⟨_, run_store_many (P := P) hU (w := w.alloc (.cells z U)) (g := w.heap.size) (cur := z) (T := U) (heap_alloc_new w _) hz (l := u.map byteV) (by simpa using hu) hone, setRow_heap _ _ _ _ _ _ (heap_alloc_new w _),
      below_setRow (hst.below.alloc hst.below.size _) hst.below.size _, ?_⟩
    refine World.ownsRow.kept hst.own (row := none) ⟨rfl, rfl, rfl, ?_, ?_⟩ ?_
    · simp [World.setRow]
    · intro j hj _
      rw [setRow_other _ _ _ _ (by omega)]
      exact Below.heap_alloc w _ j hj
    · cases h : (aget a 1).ownBlock <;> simp
  refine wl_store (w' := w1) ?_ ?_
  · rw [aget_eval, aget_eval, aget_put_same _ _ _ (by (first | rw [hN] | simp only [size_put, hN]); omega), aget_put_other _ _ _ _ (by omega), aget_put_same _ _ _ (by (first | rw [hN] | simp only [size_put, hN]); omega)]
    exact hrun
  have f1 : Fr N lo t nt a (Act.put (Act.put (Act.put (Act.put (Act.put a (some t1) (.pointer (some ⟨b, o, none⟩))) (some (t1 + 1)) (.pointer (some ⟨b, o, none⟩))) (some (t1 + 2)) (.pointer (some ⟨b, o + off, none⟩))) (some (t1 + 3)) (.agg (u.map byteV).toArray)) (some v) (.pointer (some ⟨w.heap.size, 0, none⟩))) :=
    (((((Fr.refl N lo t nt a).put _ _ (by omega)).put _ _ (by omega)).put _ _ (by omega)).put _ _ (by omega)).put _ _ (by omega)
  refine wpList_nil ?_
  simp only [ap, apLeaf] at hl hq
  exact reg_uuid2 hU he hF hu hblk hbel hown (f1.same 1 (by omega) (.inl g1)) (f1.size.trans hN) (aget_put_same _ _ _ (by (first | rw [hN] | simp only [size_put, hN]); omega)) ⟨d5, d6, d7, g1, g2, g3, g4⟩ hl fun a' w' hs hf => hq a' w' hs ((f1.to1 ⟨g1, g2, g3, g4⟩).trans hf)

/-- A number of a named type: '{ v := int8(v); .. }'. -/
theorem appL_copy {ver : Int} {flex : Bool} {u v t1 r ty1 ty2 lo' t' : Nat} {p1 p2 : String} {e1 e2 : Array Edge} {c : Code} {lf : Leaf}
    (hk : KOK N lo t K) (hD : Dims N nt lo t) (hd : t ≤ t1 ∧ t1 < nt ∧ lo ≤ v ∧ v < N ∧ v < lo' ∧ lo ≤ lo' ∧ t ≤ t') (h : AppL P N nt ver flex K lo' t' v c lf) :
    AppL P N nt ver flex K lo t u ((Code.region r #[⟨some t1, .move (.tmp u), ty1, p1, e1, none⟩, ⟨some v, .assign (.tmp t1), ty2, p2, e2, none⟩] false).seq c) lf := by
  intro w0 b o x gv hrep hc a w bs Q hst hh hl hq
  obtain ⟨d1, d2, d3, d4, d5, d6, d7⟩ := hd
  refine wp_seq (reg_copy (x0 := nt) (lo := lo) hst.size hh.head ⟨hD.dT, d1, d2, d3, d4⟩ fun a' hfr0 hx => ?_)
  have hfr := hfr0.to1 hD
  exact h w0 b o x gv hrep hc a' w bs _ (hst.fr hfr0 hD) ((hh.tail.fr hk hfr).cons hx) hl fun a2 w2 hs2 hf2 => hq a2 w2 hs2 (hfr.trans (hf2.mono d6 d7))

/-- The whole of AppendTo, of a message that has flexible versions. -/
theorem calls_append_flex {f : Nat} {fn : Func} {rs sv sf t1 t2 t3 t4 T k U J1 J2 r0 r1 r2 r3 r4 ty0 ty1 ty2 ty3 ty4 ty5 ty6 ty7 ty8 ty9 ty10 : Nat} {p0 p1 p2 p3 p4 p5 p6 p7 p8 p9 p10 : String} {e0 e1 e2 e3 e4 e5 e6 e7 e8 e9 e10 : Array Edge} {c : Code} {m : Int}
    {sch : Sch} {ver : Int} {b o : Nat} {v : GV} {off0 : Nat}
    (hf : P.funcs[f]? = some fn)
    (hbody : fn.body = some ((Code.region r0 #[⟨some rs, .assign (.const (.slice none 0 0)), ty0, p0, e0, none⟩] false).seq
      ((Code.region r1 #[⟨some t1, .move (.tmp 0), ty1, p1, e1, none⟩, ⟨some (t1 + 1), .nilCheck (.tmp t1), ty2, p2, e2, none⟩, ⟨some (t1 + 2), .fieldAddr T (.tmp (t1 + 1)) k, ty3, p3, e3, none⟩,
        ⟨some (t1 + 3), .load U (.tmp (t1 + 2)), ty4, p4, e4, none⟩, ⟨some sv, .assign (.tmp (t1 + 3)), ty5, p5, e5, none⟩] false).seq
      ((Code.region r2 #[⟨some t2, .move (.tmp sv), ty6, p6, e6, none⟩] false).seq
      ((Code.region r3 #[⟨some t3, .move (.tmp sv), ty7, p7, e7, none⟩, ⟨some (t3 + 1), .binOp .geq J1 (.tmp t3) (.const (.int .i16 m)) J2, ty8, p8, e8, none⟩, ⟨some sf, .assign (.tmp (t3 + 1)), ty9, p9, e9, none⟩] false).seq
      ((Code.region r4 #[⟨some t4, .move (.tmp sf), ty10, p10, e10, none⟩] false).seq c))))))
    (hnt : fn.ntmps = nt) (hres : fn.results = #[.tmp rs]) (hT : FieldAt P T k off0) (hU : OneCell P U)
    (hd : N ≤ t1 ∧ t1 + 3 < nt ∧ N ≤ t2 ∧ t2 < nt ∧ N ≤ t3 ∧ t3 + 1 < nt ∧ N ≤ t4 ∧ t4 < nt ∧ 1 < rs ∧ rs < sv ∧ sv < sf ∧ sf < N ∧ 2 ≤ nt ∧ N ≤ nt)
    (hver : w0.cell? ⟨b, o + off0, none⟩ = some (.int .i16 ver)) (hrep : Rep RT [] w0 ver (hasV m none ver) sch b o v)
    (hc : AppRS RT P N nt ver (hasV m none ver) [(sv, .int .i16 ver), (sf, .bool (hasV m none ver))] rs 0 c sch) (hl : (ap ver (hasV m none ver) sch v).length ≤ lim) :
    Calls P f #[.pointer (some ⟨b, o, none⟩), .slice none 0 0] w0 (Appended w0.heap.size w0 (ap ver (hasV m none ver) sch v)) := by
  obtain ⟨d1, d2, d3, d4, d5, d6, d7, d8, d9, d10, d11, d12, d13, d14⟩ := hd
  refine calls_of_wp hf hbody ?_
  rw [hnt]
  have hD : Dims N nt 2 N := ⟨by omega, by omega, Nat.le_refl _, d14⟩
  have hsz : (#[Value.pointer (some ⟨b, o, none⟩), Value.slice none 0 0] ++ Array.replicate (nt - (#[Value.pointer (some ⟨b, o, none⟩), Value.slice none 0 0]).size) undef).size = nt := by simp; omega
  generalize hA : ({ tmps := #[Value.pointer (some ⟨b, o, none⟩), Value.slice none 0 0] ++ Array.replicate (nt - (#[Value.pointer (some ⟨b, o, none⟩), Value.slice none 0 0]).size) undef, defers := [] } : Act) = A
  have hAs : A.tmps.size = nt := by rw [← hA]; exact hsz
  have hA0 : aget A 0 = .pointer (some ⟨b, o, none⟩) := by rw [← hA]; simp [aget, Array.getD_eq_getD_getElem?, Array.getElem?_append]
  have hA1 : aget A 1 = .slice none 0 0 := by rw [← hA]; simp [aget, Array.getD_eq_getD_getElem?, Array.getElem?_append]
  have hAd : A.defers = [] := by rw [← hA]
  clear hA hsz
  have hst : St nt w0 A w0 [] := ⟨hAs, by rw [hA1]; exact Own.nil _ _, Below.refl _ _⟩
  refine wp_seq (wp_reg ?_)
  refine wl_assign_c ?_
  refine wpList_nil ?_
  simp only [Exit.then]
  have f1 : Fr N 2 N nt A (A.put (some rs) (.slice none 0 0)) := (Fr.refl ..).put _ _ (by omega)
  have st1 := hst.fr f1 hD
  refine wp_seq (reg_load (N := N) (t := N) (x0 := nt) (lo := 2) hT hU st1.size (by rw [f1.same 0 (by omega) (.inl (by omega))]; exact hA0) (by rw [Addr.add_lit]; exact hver) ⟨Nat.le_refl _, d1, d2, by omega, by omega⟩ fun a2 f2 x2 => ?_)
  have st2 := st1.fr f2 hD
  refine wp_seq (reg_flag (N := N) (t := N) (x0 := nt) (lo := N) st2.size x2 ⟨Nat.le_refl _, d3, d4, Nat.le_refl _⟩ fun a3 f3 _ => ?_)
  have st3 := st2.fr (f3.mono (by omega) (Nat.le_refl _)) hD
  have x3 : aget a3 sv = .int .i16 ver := (f3.same sv (by omega) (.inl (by omega))).trans x2
  refine wp_seq (reg_cmpv (N := N) (t := N) (x0 := nt) (lo := sf) (b := hasV m none ver) st3.size x3 ⟨Nat.le_refl _, d5, d6, Nat.le_refl _, d12⟩ (fun w => by rw [run_cmp_i16]; simp [hasV]) fun a4 f4 x4 => ?_)
  have st4 := st3.fr (f4.mono (by omega) (Nat.le_refl _)) hD
  have y4 : aget a4 sv = .int .i16 ver := (f4.same sv (by omega) (.inl (by omega))).trans x3
  refine wp_seq (reg_flag (N := N) (t := N) (x0 := nt) (lo := N) st4.size x4 ⟨Nat.le_refl _, d7, d8, Nat.le_refl _⟩ fun a5 f5 _ => ?_)
  have st5 := st4.fr (f5.mono (by omega) (Nat.le_refl _)) hD
  have x5 : aget a5 sf = .bool (hasV m none ver) := (f5.same sf (by omega) (.inl (by omega))).trans x4
  have y5 : aget a5 sv = .int .i16 ver := (f5.same sv (by omega) (.inl (by omega))).trans y4
  have z5 : aget a5 0 = .pointer (some ⟨b, o, none⟩) := (f5.same 0 (by omega) (.inl (by omega))).trans ((f4.same 0 (by omega) (.inl (by omega))).trans ((f3.same 0 (by omega) (.inl (by omega))).trans ((f2.same 0 (by omega) (.inl (by omega))).trans ((f1.same 0 (by omega) (.inl (by omega))).trans hA0))))
  refine hc w0 b o v hrep a5 w0 [] _ st5 ?_ (by simpa using hl) fun a6 w6 st6 r6 df6 => ?_
  · intro p hp
    simp only [List.mem_cons, List.not_mem_nil, or_false] at hp
    rcases hp with rfl | rfl | rfl
    · exact z5
    · exact y5
    · exact x5
  · refine bodyPost_ret (v := aget a6 1) ?_ (df6.trans (f5.defers.trans (f4.defers.trans (f3.defers.trans (f2.defers.trans (f1.defers.trans hAd)))))) ⟨_, rfl, ?_, st6.below⟩
    · rw [← r6]
      exact results_tmp hres _ _ _
    · simpa using st6.own
end
end Go.Proofs.YtmpilpgabelmiaaGreatDoor

/- The code of readFrom, whole: the reader that it makes, the version, the fields, the answer. -/
namespace Go.Proofs.YtmpilpgabelmiaaGreatDoor
open Go Go.RowKit
set_option linter.unusedVariables false

/-- The known tags of a part's end: cells, defaults, kinds; the cell of the unknown ones. -/
def chainO : Sch → List (Nat × Int × Sch)
  | .ktag off d f rest => (off, d, f) :: chainO rest
  | _ => []
def endO : Sch → Nat
  | .ktag _ _ _ rest => endO rest
  | .tags off => off
  | _ => 0
def isListS : Sch → Bool
  | .list _ _ _ => true
  | _ => false
/-- No known list comes twice. -/
def DupOK (L : List (Nat × Int × Sch)) (st : Option (List UInt8)) : Prop := ∀ (j : Nat) (raw : List (Nat × List UInt8)) (r : List UInt8) (k : Nat) (r1 : List UInt8) (c : Nat × Int × Sch), st.bind (rdMany rdTag1 j) = some (raw, r) → rdUv r = some (k, r1) → L[k]? = some c → isListS c.2.2 = true → ∀ u ∈ raw, u.1 ≠ k
/-- No known list comes twice, at a message's end. -/
def KD (ver : Int) (flex : Bool) : Sch → Option (List UInt8) → Prop
  | .cons _ lo hi f rest, st => KD ver flex rest ((st.bind (rdV ver flex lo hi f)).map (·.2))
  | .ktag off d f rest, st => flex = true → DupOK (chainO (.ktag off d f rest)) ((st.bind rdUv).map (·.2))
  | _, _ => True
/-- No list among the known tags. -/
def noKL : Sch → Bool
  | .cons _ _ _ _ rest => noKL rest
  | .ktag _ _ f rest => !isListS f && noKL rest
  | _ => true
theorem noKL_chain : ∀ {f : Sch}, noKL f = true → ∀ (k : Nat) (c : Nat × Int × Sch), (chainO f)[k]? = some c → isListS c.2.2 = false
  | .ktag off d f rest, h, k, c, hc => by
    simp only [noKL, Bool.and_eq_true, Bool.not_eq_true'] at h
    simp only [chainO] at hc
    cases k with
    | zero =>
      simp only [List.getElem?_cons_zero, Option.some.injEq] at hc
      rw [← hc]
      exact h.1
    | succ k => exact noKL_chain h.2 k c (by simpa using hc)
  | .leaf _, _, k, c, hc => by simp [chainO] at hc
  | .list _ _ _, _, k, c, hc => by simp [chainO] at hc
  | .opt _, _, k, c, hc => by simp [chainO] at hc
  | .done, _, k, c, hc => by simp [chainO] at hc
  | .tags _, _, k, c, hc => by simp [chainO] at hc
  | .cons _ _ _ _ _, _, k, c, hc => by simp [chainO] at hc
theorem KD.of {ver : Int} {flex : Bool} : ∀ {f : Sch}, noKL f = true → ∀ (st : Option (List UInt8)), KD ver flex f st
  | .cons _ _ _ _ rest, h, st => KD.of (f := rest) h _
  | .ktag off d f rest, h, st => fun _ j raw r k r1 c _ _ hc hl => by rw [noKL_chain h k c hc] at hl; cases hl
  | .leaf _, _, _ => trivial
  | .list _ _ _, _, _ => trivial
  | .opt _, _, _ => trivial
  | .done, _, _ => trivial
  | .tags _, _, _ => trivial
section
variable {RT : RTags} {P : Program} {N nt gE : Nat} {E : Value} {K : Slots} {lo t : Nat} {ver : Int} {flex : Bool}
/-- Only the cells from n on, below t, have turned, and those from 1 on below l (known tags' that lie ahead of all). -/
structure SameLow (c c' : List Value) (o n l t : Nat) : Prop where
  length : c'.length = c.length
  out : ∀ k, (k < o + n ∧ (k < o + 1 ∨ o + l ≤ k)) ∨ o + t ≤ k → c'[k]? = c[k]?
theorem SameOut.low {c c' : List Value} {o n t : Nat} (h : SameOut c c' (o + n) (o + t)) (l : Nat) : SameLow c c' o n l t := ⟨h.length, fun k hk => h.out k (by omega)⟩
/-- The rest of a message, to the return. -/
def RdR (RT : RTags) (P : Program) (N nt gE : Nat) (E : Value) (ver : Int) (flex : Bool) (K : Slots) (lo t s bp rs : Nat) (c : Code) (n : Nat) (f : Sch) : Prop :=
  ∀ (O : List Nat) (rb b o T : Nat) (a : Act) (w : World) (cs : List Value) (st : Option (List UInt8)) (Q : Exit → Act → World → Prop),
    a.tmps.size = nt → Holds ((s, .pointer (some ⟨b, o, none⟩)) :: (bp, .pointer (some ⟨rb, 0, none⟩)) :: K) a → RSt gE E O w rb b cs T st → Fresh cs o f → KD ver flex f st →
    (∀ a' w', a'.tmps.size = nt → a'.defers = a.defers → aget a' rs = (if (st.bind (rd ver flex f)).isSome then .nilIface else E) → Keeps [rb, b] w w' →
      (∀ v r, st.bind (rd ver flex f) = some (v, r) → Rep RT O w' ver flex f b o v ∧ ∃ cs', Blk w' b cs' T ∧ SameLow cs cs' o n (lowTop f) (top f)) → Q .ret a' w') → c.wp P Q a w
theorem rdR_end {s bp rs n t1 F r ty1 ty2 : Nat} {p1 p2 : String} {e1 e2 : Array Edge} {at_ : Array TypeId} {c : Code} {f : Sch} (hk : KOK N lo t ((s, .int .i64 0) :: (bp, .int .i64 0) :: K)) (hD : Dims N nt lo t) (he : Enters P F) (hC : CompleteC P F gE E) (hd : t1 < nt ∧ rs < nt)
    (h : RdS RT P N nt gE E ver flex K lo t s bp rs c n f) :
    RdR RT P N nt gE E ver flex K lo t s bp rs (c.seq ((Code.region r #[⟨some t1, .call { callee := .value (.func F), args := #[.tmp bp], argTypes := at_ }, ty1, p1, e1, none⟩, ⟨some rs, .assign (.tmp t1), ty2, p2, e2, none⟩] false).seq .ret)) n f := by
  intro O rb b o T a w cs st Q hN hh hst hF _ hq
  refine wp_seq (h O rb b o T a w cs st _ hN hh hst hF (fun a1 w1 cs1 k1 k2 k3 k4 k5 => ?_) (fun a1 w1 k1 k2 k3 k4 k5 => hq a1 w1 k2 k3 (by rw [k1]; exact k4) k5 (fun v r h => by rw [k1] at h; cases h)))
  refine reg_complete he hC (k2.size.trans hN) (hh.frR (kokR hk) hD k2).tail.head k1.rdr k1.glob hd fun a2 j1 j2 j3 => hq a2 w1 j1 (j2.trans k2.defers) ?_ k3 fun v r hv => ⟨k5 v r hv, cs1, k1.blk, k4.low _⟩
  rw [Option.isSome_map] at j3
  exact j3
theorem rdR_cons {s bp rs off n : Nat} {vlo : Int} {vhi : Option Int} {c1 c2 : Code} {f rest : Sch} (hRT : RTKeep RT) (hk : KOK N lo t ((s, .int .i64 0) :: (bp, .int .i64 0) :: K)) (hD : Dims N nt lo t) (ho : ord n (.cons off vlo vhi f rest) = true)
    (h1 : RdFV RT P N nt gE E ver flex K lo t s bp rs c1 off vlo vhi f) (h2 : RdR RT P N nt gE E ver flex K lo t s bp rs c2 (off + top f) rest) : RdR RT P N nt gE E ver flex K lo t s bp rs (c1.seq c2) n (.cons off vlo vhi f rest) := by
  simp only [ord, Bool.and_eq_true, decide_eq_true_eq] at ho
  intro O rb b o T a w cs st Q hN hh hst hF hkd hq
  rw [rd_cons] at hq
  refine wp_seq (h1 O rb b o T a w cs st _ hN hh hst hF.1 ?_ ?_)
  · intro a1 w1 cs1 hst1 hf1 hk1 hs1 hv1
    refine h2 O rb b o T a1 w1 cs1 _ Q (hf1.size.trans hN) (hh.frR (kokR hk) hD hf1) hst1 (hF.2.behind hs1 ho.2 (by omega) (by omega)) hkd ?_
    intro a2 w2 k1 k2 k3 k4 k5
    refine hq a2 w2 k1 (k2.trans hf1.defers) ?_ (hk1.trans k4) ?_
    · rw [k3, bind2]
      congr 1
      cases hx : st.bind (rdV ver flex vlo vhi f) with
      | none => rfl
      | some q =>
        change ((rd ver flex rest q.2).isSome = true) = (((rd ver flex rest q.2).bind fun r => some (GV.cons q.1 r.1, r.2)).isSome = true)
        cases hy : rd ver flex rest q.2 <;> rfl
    · intro v r hvr
      rw [bind2] at hvr
      cases hx : st.bind (rdV ver flex vlo vhi f) with
      | none => rw [hx] at hvr; cases hvr
      | some q =>
        rw [hx] at hvr
        change ((rd ver flex rest q.2).bind fun r => some (GV.cons q.1 r.1, r.2)) = _ at hvr
        cases hy : rd ver flex rest q.2 with
        | none => rw [hy] at hvr; cases hvr
        | some r2 =>
          rw [hy] at hvr
          simp only [Option.bind_some, Option.some.injEq, Prod.mk.injEq] at hvr
          obtain ⟨rfl, rfl⟩ := hvr
          obtain ⟨j1, cs2, j2, j3⟩ := k5 r2.1 r2.2 (by rw [hx]; exact hy)
          refine ⟨⟨fun hv => ?_, j1⟩, cs2, j2, ⟨j3.length.trans hs1.length, fun k hk => ?_⟩⟩
          · refine Rep.move hRT (hst.keepO k4) (hv1 q.1 q.2 hx hv) fun i hi => ?_
            rw [hst1.blk.cell, j2.cell]
            exact j3.out _ (by omega)
          · simp only [lowTop, top] at hk
            exact (j3.out k (by omega)).trans (hs1.out k (by omega))
  · intro a1 w1 hn hs hd hE hk1
    have e : (st.bind ((rdV ver flex vlo vhi f).bind fun v => (rd ver flex rest).bind fun vs => .pure (GV.cons v vs))) = none := by rw [bind2, hn]; rfl
    exact hq a1 w1 hs hd (by rw [e]; exact hE) hk1 (fun v r h => by rw [e] at h; cases h)
/-- What readFrom leaves. -/
def ReadPost (RT : RTags) (E : Value) (ver : Int) (flex : Bool) (sch : Sch) (b o off0 : Nat) (bs : List UInt8) (w : World) (en : Ending) (w' : World) : Prop :=
  en = .returned (if (rd ver flex sch bs).isSome then .nilIface else E) ∧ Keeps [b] w w' ∧ ∀ v r, rd ver flex sch bs = some (v, r) → Rep RT [] w' ver flex sch b o v ∧ w'.cell? ⟨b, o + off0, none⟩ = some (.int .i16 ver)
/-- What is asked of the message's own Default. -/
def DefT (P : Program) (F b o T off0 : Nat) (sch : Sch) (w : World) : Prop := Calls P F #[.pointer (some ⟨b, o, none⟩)] w fun en w' => ∃ cs', en = .returned (.tuple #[]) ∧ Blk w' b cs' T ∧ Keeps [b] w w' ∧ Fresh cs' o sch ∧ w'.cell? ⟨b, o + off0, none⟩ = w.cell? ⟨b, o + off0, none⟩
/-- The first four steps. -/
theorem read_head {f : Nat} {fn : Func} {rs bp sv t1 t2 t3 FD U Tm Uv k r0 r1 r2 r3 y1 y2 y3 y4 y5 y6 y7 y8 y9 y10 y11 y12 : Nat} {q1 q2 q3 q4 q5 q6 q7 q8 q9 q10 q11 q12 : String} {g1 g2 g3 g4 g5 g6 g7 g8 g9 g10 g11 g12 : Array Edge} {at_ : Array TypeId} {c : Code}
    {sch : Sch} {b o T off0 : Nat} {w : World} {src : Value} {bs : List UInt8} {R : Ending → World → Prop}
    (hf : P.funcs[f]? = some fn)
    (hbody : fn.body = some ((Code.region r0 #[⟨some rs, .assign (.const .nilIface), y1, q1, g1, none⟩] false).seq
      ((Code.region r1 #[⟨some t1, .move (.tmp 0), y2, q2, g2, none⟩, ⟨some (t1 + 1), .call { callee := .value (.func FD), args := #[.tmp t1], argTypes := at_ }, y3, q3, g3, none⟩] false).seq
      ((Code.region r2 #[⟨some t2, .move (.tmp 1), y4, q4, g4, none⟩, ⟨some (t2 + 1), .build U #[(0, .tmp t2)], y5, q5, g5, none⟩, ⟨some bp, .alloc U, y6, q6, g6, none⟩, ⟨none, .store U (.tmp bp) (.tmp (t2 + 1)), y7, q7, g7, none⟩] false).seq
      ((Code.region r3 #[⟨some t3, .move (.tmp 0), y8, q8, g8, none⟩, ⟨some (t3 + 1), .nilCheck (.tmp t3), y9, q9, g9, none⟩, ⟨some (t3 + 2), .fieldAddr Tm (.tmp (t3 + 1)) k, y10, q10, g10, none⟩,
        ⟨some (t3 + 3), .load Uv (.tmp (t3 + 2)), y11, q11, g11, none⟩, ⟨some sv, .assign (.tmp (t3 + 3)), y12, q12, g12, none⟩] false).seq c)))))
    (hnt : fn.ntmps = nt) (he : Enters P FD) (hT : FieldAt P Tm k off0) (hUv : OneCell P Uv) (hU : ManyCells P U 2) (hUr : U = 110) (hB : ∀ ad n m, P.built U [(0, .slice ad n m)] = some #[.slice ad n m, .bool false])
    (hd : N ≤ t1 ∧ t1 + 1 < nt ∧ N ≤ t2 ∧ t2 + 1 < nt ∧ N ≤ t3 ∧ t3 + 3 < nt ∧ 2 < rs ∧ rs < bp ∧ bp < sv ∧ sv < N ∧ 3 ≤ nt ∧ N ≤ nt)
    (hver : w.cell? ⟨b, o + off0, none⟩ = some (.int .i16 ver)) (hDef : DefT P FD b o T off0 sch w) (hs : RB [b] w src bs) (hbs : bs.length ≤ lim) (hE : w.cell? ⟨gE, 0, none⟩ = some E) (hgE : gE ≠ b) (hb : b < w.heap.size)
    (h : ∀ a w2 rb cs, w.heap.size ≤ rb → a.tmps.size = nt → a.defers = [] → Holds [(0, .pointer (some ⟨b, o, none⟩)), (bp, .pointer (some ⟨rb, 0, none⟩)), (sv, .int .i16 ver), (rs, .nilIface), (2, .bool false)] a → RSt gE E [rb, b] w2 rb b cs T (some bs) → Fresh cs o sch → w2.cell? ⟨b, o + off0, none⟩ = some (.int .i16 ver) → Keeps [b] w w2 → c.wp P (bodyPost P fn R) a w2) :
    Calls P f #[.pointer (some ⟨b, o, none⟩), src, .bool false] w R := by
  obtain ⟨d1, d2, d3, d4, d5, d6, d7, d8, d9, d10, d11, d12⟩ := hd
  obtain ⟨sad, scap, rfl, -⟩ : ∃ a cap, src = .slice a bs.length cap ∧ True := by obtain ⟨a, cap, h, -⟩ := hs; exact ⟨a, cap, h, trivial⟩
  refine calls_of_wp hf hbody ?_
  rw [hnt]
  have hsz : (#[Value.pointer (some ⟨b, o, none⟩), .slice sad bs.length scap, .bool false] ++ Array.replicate (nt - (#[Value.pointer (some ⟨b, o, none⟩), .slice sad bs.length scap, .bool false]).size) undef).size = nt := by simp; omega
  generalize hA : ({ tmps := #[Value.pointer (some ⟨b, o, none⟩), .slice sad bs.length scap, .bool false] ++ Array.replicate (nt - (#[Value.pointer (some ⟨b, o, none⟩), .slice sad bs.length scap, .bool false]).size) undef, defers := [] } : Act) = A
  have hAs : A.tmps.size = nt := by rw [← hA]; exact hsz
  have hA0 : aget A 0 = .pointer (some ⟨b, o, none⟩) := by rw [← hA]; simp [aget, Array.getD_eq_getD_getElem?, Array.getElem?_append]
  have hA1 : aget A 1 = .slice sad bs.length scap := by rw [← hA]; simp [aget, Array.getD_eq_getD_getElem?, Array.getElem?_append]
  have hA2 : aget A 2 = .bool false := by rw [← hA]; simp [aget, Array.getD_eq_getD_getElem?, Array.getElem?_append]
  have hAd : A.defers = [] := by rw [← hA]
  clear hA hsz
  refine wp_seq (wp_reg ?_)
  refine wl_assign_c ?_
  refine wpList_nil ?_
  simp only [Exit.then]
  have f1 : Fr N rs N nt A (A.put (some rs) .nilIface) := (Fr.refl ..).put _ _ (by omega)
  have n1 : aget (A.put (some rs) .nilIface) rs = .nilIface := aget_put_same _ _ _ (by omega)
  generalize A.put (some rs) .nilIface = A1 at *
  have s1 := f1.size.trans hAs
  have z1 : aget A1 0 = .pointer (some ⟨b, o, none⟩) := (f1.same 0 (by omega) (.inl (by omega))).trans hA0
  refine wp_seq (wp_reg ?_)
  refine wl_move z1 ?_
  refine wl_call (R := fun en w' => ∃ cs', en = .returned (.tuple #[]) ∧ Blk w' b cs' T ∧ Keeps [b] w w' ∧ Fresh cs' o sch ∧ w'.cell? ⟨b, o + off0, none⟩ = w.cell? ⟨b, o + off0, none⟩) he ?_ ?_
  · simp only [List.map_toArray, List.map_cons, List.map_nil, aget_eval]
    rw [aget_put_same _ _ _ (by omega)]
    exact hDef
  rintro en w1 ⟨cs, rfl, hb1, hk1, hF1, hv1⟩
  refine ⟨_, rfl, wpList_nil ?_⟩
  simp only [Exit.then]
  have f2 : Fr N N N nt A1 ((A1.put (some t1) (.pointer (some ⟨b, o, none⟩))).put (some (t1 + 1)) (.tuple #[])) := ((Fr.refl ..).put _ _ (by omega)).put _ _ (by omega)
  generalize ((A1.put (some t1) (.pointer (some ⟨b, o, none⟩))).put (some (t1 + 1)) (.tuple #[])) = A2 at *
  have s2 := f2.size.trans s1
  have z2 : aget A2 0 = .pointer (some ⟨b, o, none⟩) := (f2.same 0 (by omega) (.inl (by omega))).trans z1
  have v2 : aget A2 1 = .slice sad bs.length scap := (f2.same 1 (by omega) (.inl (by omega))).trans ((f1.same 1 (by omega) (.inl (by omega))).trans hA1)
  refine wp_seq (wp_reg ?_)
  refine wl_move v2 ?_
  refine wl_value (v := .agg #[.slice sad bs.length scap, .bool false]) (w' := w1) rfl ?_ ?_
  · have e1 : (A2.put (some t2) (.slice sad bs.length scap)).eval (.tmp t2) = .slice sad bs.length scap := aget_put_same _ _ _ (by omega)
    have e2 := run_build (P := P) w1 U #[(0, .slice sad bs.length scap)] _ (hB sad bs.length scap)
    simp [execOp, e1, e2]
  obtain ⟨z, hz, hza⟩ := run_alloc_many (P := P) hU w1
  refine wl_value (v := .pointer (some ⟨w1.heap.size, 0, none⟩)) (w' := w1.alloc (.cells z U)) rfl (by simp [execOp, hza]) ?_
  have hg : (w1.alloc (.cells z U)).heap[w1.heap.size]? = some (.cells z U (0, 0)) := heap_alloc_new w1 _
  refine wl_store (w' := (w1.alloc (.cells z U)).setRow w1.heap.size #[.slice sad bs.length scap, .bool false]) ?_ ?_
  · rw [aget_eval, aget_eval, aget_put_same _ _ _ (by simp only [size_put]; omega), aget_put_other _ _ _ (t2 + 1) (by omega), aget_put_same _ _ _ (by simp only [size_put]; omega)]
    exact run_store_many (P := P) hU hg hz (l := [.slice sad bs.length scap, .bool false]) rfl (by simp [Value.oneCell'])
  refine wpList_nil ?_
  simp only [Exit.then]
  have hblk : Blk ((w1.alloc (.cells z U)).setRow w1.heap.size #[.slice sad bs.length scap, .bool false]) w1.heap.size [.slice sad bs.length scap, .bool false] U := setRow_heap _ _ _ _ _ _ hg
  have hk0 : Keeps [] w1 ((w1.alloc (.cells z U)).setRow w1.heap.size #[.slice sad bs.length scap, .bool false]) := by
    exact Keeps.of_below (below_setRow (Below.alloc (Below.refl w1.heap.size w1) (Nat.le_refl _) (.cells z U)) (Nat.le_refl _) _) (Nat.le_refl _)
  generalize ((w1.alloc (.cells z U)).setRow w1.heap.size #[.slice sad bs.length scap, .bool false]) = w2 at *
  have f3 : Fr N bp N nt A2 (((A2.put (some t2) (.slice sad bs.length scap)).put (some (t2 + 1)) (.agg #[.slice sad bs.length scap, .bool false])).put (some bp) (.pointer (some ⟨w1.heap.size, 0, none⟩))) := (((Fr.refl ..).put _ _ (by omega)).put _ _ (by omega)).put _ _ (by omega)
  have p3 : aget (((A2.put (some t2) (.slice sad bs.length scap)).put (some (t2 + 1)) (.agg #[.slice sad bs.length scap, .bool false])).put (some bp) (.pointer (some ⟨w1.heap.size, 0, none⟩))) bp = .pointer (some ⟨w1.heap.size, 0, none⟩) := aget_put_same _ _ _ (by simp only [size_put]; omega)
  generalize (((A2.put (some t2) (.slice sad bs.length scap)).put (some (t2 + 1)) (.agg #[.slice sad bs.length scap, .bool false])).put (some bp) (.pointer (some ⟨w1.heap.size, 0, none⟩))) = A3 at *
  have s3 := f3.size.trans s2
  have z3 : aget A3 0 = .pointer (some ⟨b, o, none⟩) := (f3.same 0 (by omega) (.inl (by omega))).trans z2
  have n3 : aget A3 rs = .nilIface := (f3.same rs (by omega) (.inl (by omega))).trans ((f2.same rs (by omega) (.inl (by omega))).trans n1)
  have hbl : b < w1.heap.size := hb1.lt
  have hk2 : Keeps [b] w1 w2 := hk0.mono (by simp)
  have hb2 : Blk w2 b cs T := hb1.keeps hk0 (by simp)
  have hv2 : w2.cell? ⟨b, o + off0, none⟩ = some (.int .i16 ver) := by rw [hb2.cell, ← hb1.cell, hv1, hver]
  refine wp_seq (reg_load (N := N) (t := N) (x0 := nt) (lo := sv) hT hUv s3 z3 (by rw [Addr.add_lit]; exact hv2) ⟨Nat.le_refl _, d5, d6, Nat.le_refl _, d10⟩ fun a4 f4 x4 => ?_)
  refine h a4 w2 w1.heap.size cs hk1.size (f4.size.trans s3) (f4.defers.trans (f3.defers.trans (f2.defers.trans (f1.defers.trans hAd)))) ?_ ?_ hF1 hv2 (hk1.trans hk2)
  · intro q hq
    simp only [List.mem_cons, List.not_mem_nil, or_false] at hq
    rcases hq with rfl | rfl | rfl | rfl | rfl
    · exact (f4.same 0 (by omega) (.inl (by omega))).trans z3
    · exact (f4.same bp (by omega) (.inl (by omega))).trans p3
    · exact x4
    · exact (f4.same rs (by omega) (.inl (by omega))).trans n3
    · exact (f4.same 2 (by omega) (.inl (by omega))).trans ((f3.same 2 (by omega) (.inl (by omega))).trans ((f2.same 2 (by omega) (.inl (by omega))).trans ((f1.same 2 (by omega) (.inl (by omega))).trans hA2)))
  · have hglt : gE < w.heap.size := World.block_lt_of_cell? w _ hE
    have hk12 := hk1.trans hk2
    refine ⟨⟨_, hUr ▸ hblk, ?_, hbs⟩, hb2, by simp, by simp, by omega, ?_, ?_, ?_⟩
    · exact ((hs.keeps hk1).openNew (Nat.le_refl _)).keeps (hk2.mono (by simp))
    · intro k hk
      simp only [List.mem_cons, List.not_mem_nil, or_false] at hk
      rcases hk with rfl | rfl
      · exact hblk.lt
      · exact hb2.lt
    · exact (World.cell?_of_block (hk12.block gE hglt (by simpa using hgE))).trans hE
    · have := hk1.size
      simp only [List.mem_cons, List.not_mem_nil, or_false, not_or]
      exact ⟨by omega, hgE⟩
theorem read_tail {fn : Func} {rs n b o T off0 rb : Nat} {sch : Sch} {bs : List UInt8} {a : Act} {w w2 : World} {cs : List Value} {c : Code} {s bp : Nat} (hRTm : RTMono RT) (hres : fn.results = #[.tmp rs]) (h : RdR RT P N nt gE E ver flex K lo t s bp rs c n sch)
    (hN : a.tmps.size = nt) (hd : a.defers = []) (hh : Holds ((s, .pointer (some ⟨b, o, none⟩)) :: (bp, .pointer (some ⟨rb, 0, none⟩)) :: K) a) (hst : RSt gE E [rb, b] w2 rb b cs T (some bs)) (hF : Fresh cs o sch) (hv : w2.cell? ⟨b, o + off0, none⟩ = some (.int .i16 ver)) (hk : Keeps [b] w w2) (hrb : w.heap.size ≤ rb) (hn : off0 < n ∧ (off0 = 0 ∨ lowTop sch = 0)) (hkd : KD ver flex sch (some bs)) :
    c.wp P (bodyPost P fn (ReadPost RT E ver flex sch b o off0 bs w)) a w2 := by
  refine h _ rb b o T a w2 cs (some bs) _ hN hh hst hF hkd fun a' w' k1 k2 k3 k4 k5 => ?_
  refine bodyPost_ret (v := aget a' rs) (results_tmp hres _ _ _) (k2.trans hd) ⟨by rw [k3]; rfl, ?_, fun v r hvr => ?_⟩
  · exact ((hk.mono (O' := [rb, b]) (by simp)).trans k4).close hrb
  · obtain ⟨j1, cs', j2, j3⟩ := k5 v r hvr
    refine ⟨j1.mono hRTm (by simp), ?_⟩
    rw [j2.cell, j3.out _ (.inl (by omega)), ← hst.blk.cell, hv]
theorem calls_read_flex {f : Nat} {fn : Func} {rs bp sv sf s t1 t2 t3 t4 t5 t6 t7 FD U Tm Uv k r0 r1 r2 r3 r4 r5 r6 r7 J1 J2 y1 y2 y3 y4 y5 y6 y7 y8 y9 y10 y11 y12 y13 y14 y15 y16 y17 y18 y19 : Nat} {q1 q2 q3 q4 q5 q6 q7 q8 q9 q10 q11 q12 q13 q14 q15 q16 q17 q18 q19 : String} {g1 g2 g3 g4 g5 g6 g7 g8 g9 g10 g11 g12 g13 g14 g15 g16 g17 g18 g19 : Array Edge} {at_ : Array TypeId} {c : Code} {m : Int}
    {sch : Sch} {b o T off0 n : Nat} {w : World} {src : Value} {bs : List UInt8}
    (hf : P.funcs[f]? = some fn)
    (hbody : fn.body = some ((Code.region r0 #[⟨some rs, .assign (.const .nilIface), y1, q1, g1, none⟩] false).seq
      ((Code.region r1 #[⟨some t1, .move (.tmp 0), y2, q2, g2, none⟩, ⟨some (t1 + 1), .call { callee := .value (.func FD), args := #[.tmp t1], argTypes := at_ }, y3, q3, g3, none⟩] false).seq
      ((Code.region r2 #[⟨some t2, .move (.tmp 1), y4, q4, g4, none⟩, ⟨some (t2 + 1), .build U #[(0, .tmp t2)], y5, q5, g5, none⟩, ⟨some bp, .alloc U, y6, q6, g6, none⟩, ⟨none, .store U (.tmp bp) (.tmp (t2 + 1)), y7, q7, g7, none⟩] false).seq
      ((Code.region r3 #[⟨some t3, .move (.tmp 0), y8, q8, g8, none⟩, ⟨some (t3 + 1), .nilCheck (.tmp t3), y9, q9, g9, none⟩, ⟨some (t3 + 2), .fieldAddr Tm (.tmp (t3 + 1)) k, y10, q10, g10, none⟩,
        ⟨some (t3 + 3), .load Uv (.tmp (t3 + 2)), y11, q11, g11, none⟩, ⟨some sv, .assign (.tmp (t3 + 3)), y12, q12, g12, none⟩] false).seq
      ((Code.region r4 #[⟨some t4, .move (.tmp sv), y13, q13, g13, none⟩] false).seq
      ((Code.region r5 #[⟨some t5, .move (.tmp sv), y14, q14, g14, none⟩, ⟨some (t5 + 1), .binOp .geq J1 (.tmp t5) (.const (.int .i16 m)) J2, y15, q15, g15, none⟩, ⟨some sf, .assign (.tmp (t5 + 1)), y16, q16, g16, none⟩] false).seq
      ((Code.region r6 #[⟨some t6, .move (.tmp sf), y17, q17, g17, none⟩] false).seq
      ((Code.region r7 #[⟨some t7, .move (.tmp 0), y18, q18, g18, none⟩, ⟨some s, .assign (.tmp t7), y19, q19, g19, none⟩] false).seq c)))))))))
    (hnt : fn.ntmps = nt) (hres : fn.results = #[.tmp rs]) (he : Enters P FD) (hT : FieldAt P Tm k off0) (hUv : OneCell P Uv) (hU : ManyCells P U 2) (hUr : U = 110) (hB : ∀ ad n m, P.built U [(0, .slice ad n m)] = some #[.slice ad n m, .bool false])
    (hd : N ≤ t1 ∧ t1 + 1 < nt ∧ N ≤ t2 ∧ t2 + 1 < nt ∧ N ≤ t3 ∧ t3 + 3 < nt ∧ 2 < rs ∧ rs < bp ∧ bp < sv ∧ sv < N ∧ 3 ≤ nt ∧ N ≤ nt) (hd2 : N ≤ t4 ∧ t4 < nt ∧ N ≤ t5 ∧ t5 + 1 < nt ∧ N ≤ t6 ∧ t6 < nt ∧ N ≤ t7 ∧ t7 < nt ∧ sv < sf ∧ sf < s ∧ s < N)
    (hRTm : RTMono RT) (hn : off0 < n ∧ (off0 = 0 ∨ lowTop sch = 0)) (hkd : KD ver (hasV m none ver) sch (some bs)) (hc : RdR RT P N nt gE E ver (hasV m none ver) [(sv, .int .i16 ver), (sf, .bool (hasV m none ver)), (2, .bool false)] (s + 1) N s bp rs c n sch)
    (hver : w.cell? ⟨b, o + off0, none⟩ = some (.int .i16 ver)) (hDef : DefT P FD b o T off0 sch w) (hs : RB [b] w src bs) (hbs : bs.length ≤ lim) (hE : w.cell? ⟨gE, 0, none⟩ = some E) (hgE : gE ≠ b) (hb : b < w.heap.size) :
    Calls P f #[.pointer (some ⟨b, o, none⟩), src, .bool false] w (ReadPost RT E ver (hasV m none ver) sch b o off0 bs w) := by
  refine read_head hf hbody hnt he hT hUv hU hUr hB hd hver hDef hs hbs hE hgE hb fun a w2 rb cs hrb hN hdf hh hst hF hv hk => ?_
  obtain ⟨d1, d2, d3, d4, d5, d6, d7, d8, d9, d10, d11, d12⟩ := hd
  obtain ⟨c1, c2, c3, c4, c5, c6, c7, c8, c9, c10, c11⟩ := hd2
  have x0 : aget a 0 = .pointer (some ⟨b, o, none⟩) := hh (0, .pointer (some ⟨b, o, none⟩)) (by simp)
  have x1 : aget a bp = .pointer (some ⟨rb, 0, none⟩) := hh (bp, .pointer (some ⟨rb, 0, none⟩)) (by simp)
  have x2 : aget a sv = .int .i16 ver := hh (sv, .int .i16 ver) (by simp)
  have x3 : aget a 2 = .bool false := hh (2, .bool false) (by simp)
  refine wp_seq (reg_flag (N := N) (t := N) (x0 := nt) (lo := N) hN x2 ⟨Nat.le_refl _, c1, c2, Nat.le_refl _⟩ fun a1 f1 _ => ?_)
  have s1 := f1.size.trans hN
  refine wp_seq (reg_cmpv (N := N) (t := N) (x0 := nt) (lo := sf) (b := hasV m none ver) s1 ((f1.same sv (by omega) (.inl (by omega))).trans x2) ⟨Nat.le_refl _, c3, c4, Nat.le_refl _, by omega⟩ (fun w => by rw [run_cmp_i16]; simp [hasV]) fun a2 f2 y2 => ?_)
  have s2 := f2.size.trans s1
  refine wp_seq (reg_flag (N := N) (t := N) (x0 := nt) (lo := N) s2 y2 ⟨Nat.le_refl _, c5, c6, Nat.le_refl _⟩ fun a3 f3 _ => ?_)
  have s3 := f3.size.trans s2
  have f03 : Fr N sf N nt a a3 := ((f1.mono (by omega) (Nat.le_refl _)).trans f2).trans (f3.mono (by omega) (Nat.le_refl _))
  refine wp_seq (reg_copy (N := N) (t := N) (x0 := nt) (lo := s) s3 ((f03.same 0 (by omega) (.inl (by omega))).trans x0) ⟨Nat.le_refl _, c7, c8, Nat.le_refl _, c11⟩ fun a4 f4 x4 => ?_)
  refine read_tail hRTm hres hc (f4.size.trans s3) (f4.defers.trans (f03.defers.trans hdf)) ?_ hst hF hv hk hrb hn hkd
  intro q hq
  simp only [List.mem_cons, List.not_mem_nil, or_false] at hq
  rcases hq with rfl | rfl | rfl | rfl | rfl
  · exact x4
  · exact (f4.same bp (by omega) (.inl (by omega))).trans ((f03.same bp (by omega) (.inl (by omega))).trans x1)
  · exact (f4.same sv (by omega) (.inl (by omega))).trans ((f03.same sv (by omega) (.inl (by omega))).trans x2)
  · exact (f4.same sf (by omega) (.inl (by omega))).trans ((f3.same sf (by omega) (.inl (by omega))).trans y2)
  · exact (f4.same 2 (by omega) (.inl (by omega))).trans ((f03.same 2 (by omega) (.inl (by omega))).trans x3)
theorem calls_read_plain {f : Nat} {fn : Func} {rs bp sv s t1 t2 t3 t4 t7 FD U Tm Uv k r0 r1 r2 r3 r4 r7 y1 y2 y3 y4 y5 y6 y7 y8 y9 y10 y11 y12 y13 y14 y15 y16 y17 y18 y19 : Nat} {q1 q2 q3 q4 q5 q6 q7 q8 q9 q10 q11 q12 q13 q14 q15 q16 q17 q18 q19 : String} {g1 g2 g3 g4 g5 g6 g7 g8 g9 g10 g11 g12 g13 g14 g15 g16 g17 g18 g19 : Array Edge} {at_ : Array TypeId} {c : Code}
    {sch : Sch} {b o T off0 n : Nat} {w : World} {src : Value} {bs : List UInt8}
    (hf : P.funcs[f]? = some fn)
    (hbody : fn.body = some ((Code.region r0 #[⟨some rs, .assign (.const .nilIface), y1, q1, g1, none⟩] false).seq
      ((Code.region r1 #[⟨some t1, .move (.tmp 0), y2, q2, g2, none⟩, ⟨some (t1 + 1), .call { callee := .value (.func FD), args := #[.tmp t1], argTypes := at_ }, y3, q3, g3, none⟩] false).seq
      ((Code.region r2 #[⟨some t2, .move (.tmp 1), y4, q4, g4, none⟩, ⟨some (t2 + 1), .build U #[(0, .tmp t2)], y5, q5, g5, none⟩, ⟨some bp, .alloc U, y6, q6, g6, none⟩, ⟨none, .store U (.tmp bp) (.tmp (t2 + 1)), y7, q7, g7, none⟩] false).seq
      ((Code.region r3 #[⟨some t3, .move (.tmp 0), y8, q8, g8, none⟩, ⟨some (t3 + 1), .nilCheck (.tmp t3), y9, q9, g9, none⟩, ⟨some (t3 + 2), .fieldAddr Tm (.tmp (t3 + 1)) k, y10, q10, g10, none⟩,
        ⟨some (t3 + 3), .load Uv (.tmp (t3 + 2)), y11, q11, g11, none⟩, ⟨some sv, .assign (.tmp (t3 + 3)), y12, q12, g12, none⟩] false).seq
      ((Code.region r4 #[⟨some t4, .move (.tmp sv), y13, q13, g13, none⟩] false).seq
      ((Code.region r7 #[⟨some t7, .move (.tmp 0), y18, q18, g18, none⟩, ⟨some s, .assign (.tmp t7), y19, q19, g19, none⟩] false).seq c)))))))
    (hnt : fn.ntmps = nt) (hres : fn.results = #[.tmp rs]) (he : Enters P FD) (hT : FieldAt P Tm k off0) (hUv : OneCell P Uv) (hU : ManyCells P U 2) (hUr : U = 110) (hB : ∀ ad n m, P.built U [(0, .slice ad n m)] = some #[.slice ad n m, .bool false])
    (hd : N ≤ t1 ∧ t1 + 1 < nt ∧ N ≤ t2 ∧ t2 + 1 < nt ∧ N ≤ t3 ∧ t3 + 3 < nt ∧ 2 < rs ∧ rs < bp ∧ bp < sv ∧ sv < N ∧ 3 ≤ nt ∧ N ≤ nt) (hd2 : N ≤ t4 ∧ t4 < nt ∧ N ≤ t7 ∧ t7 < nt ∧ sv < s ∧ s < N)
    (hRTm : RTMono RT) (hn : off0 < n ∧ (off0 = 0 ∨ lowTop sch = 0)) (hkd : KD ver false sch (some bs)) (hc : RdR RT P N nt gE E ver false [(sv, .int .i16 ver), (2, .bool false)] (s + 1) N s bp rs c n sch)
    (hver : w.cell? ⟨b, o + off0, none⟩ = some (.int .i16 ver)) (hDef : DefT P FD b o T off0 sch w) (hs : RB [b] w src bs) (hbs : bs.length ≤ lim) (hE : w.cell? ⟨gE, 0, none⟩ = some E) (hgE : gE ≠ b) (hb : b < w.heap.size) :
    Calls P f #[.pointer (some ⟨b, o, none⟩), src, .bool false] w (ReadPost RT E ver false sch b o off0 bs w) := by
  refine read_head hf hbody hnt he hT hUv hU hUr hB hd hver hDef hs hbs hE hgE hb fun a w2 rb cs hrb hN hdf hh hst hF hv hk => ?_
  obtain ⟨d1, d2, d3, d4, d5, d6, d7, d8, d9, d10, d11, d12⟩ := hd
  obtain ⟨c1, c2, c7, c8, c10, c11⟩ := hd2
  have x0 : aget a 0 = .pointer (some ⟨b, o, none⟩) := hh (0, .pointer (some ⟨b, o, none⟩)) (by simp)
  have x1 : aget a bp = .pointer (some ⟨rb, 0, none⟩) := hh (bp, .pointer (some ⟨rb, 0, none⟩)) (by simp)
  have x2 : aget a sv = .int .i16 ver := hh (sv, .int .i16 ver) (by simp)
  have x3 : aget a 2 = .bool false := hh (2, .bool false) (by simp)
  refine wp_seq (reg_flag (N := N) (t := N) (x0 := nt) (lo := N) hN x2 ⟨Nat.le_refl _, c1, c2, Nat.le_refl _⟩ fun a1 f1 _ => ?_)
  have s1 := f1.size.trans hN
  refine wp_seq (reg_copy (N := N) (t := N) (x0 := nt) (lo := s) s1 ((f1.same 0 (by omega) (.inl (by omega))).trans x0) ⟨Nat.le_refl _, c7, c8, Nat.le_refl _, c11⟩ fun a4 f4 x4 => ?_)
  refine read_tail hRTm hres hc (f4.size.trans s1) (f4.defers.trans (f1.defers.trans hdf)) ?_ hst hF hv hk hrb hn hkd
  intro q hq
  simp only [List.mem_cons, List.not_mem_nil, or_false] at hq
  rcases hq with rfl | rfl | rfl | rfl
  · exact x4
  · exact (f4.same bp (by omega) (.inl (by omega))).trans ((f1.same bp (by omega) (.inl (by omega))).trans x1)
  · exact (f4.same sv (by omega) (.inl (by omega))).trans ((f1.same sv (by omega) (.inl (by omega))).trans x2)
  · exact (f4.same 2 (by omega) (.inl (by omega))).trans ((f1.same 2 (by omega) (.inl (by omega))).trans x3)
end
end Go.Proofs.YtmpilpgabelmiaaGreatDoor

/- The reader's functions as readers of kinds; a list behind its count; sixteen octets. -/
namespace Go.Proofs.YtmpilpgabelmiaaGreatDoor
open Go Go.RowKit
set_option linter.unusedVariables false

theorem RdC.map {α β : Type} {P : Program} {f : Nat} {p : Pr α} {g : α → β} {V : List Nat → World → Value → α → Prop} {D D' : Value → Prop} {V' : List Nat → World → Value → β → Prop} (h : RdC P f p V D) (hV : ∀ O w v x bs r, p bs = some (x, r) → V O w v x → V' O w v (g x)) (hD : ∀ v, D v → D' v) :
    RdC P f (p.bind fun x => .pure (g x)) V' D' := by
  intro O rb w st hO hlt hr
  refine (h O rb w st hO hlt hr).mono ?_
  rintro en w' ⟨v, rfl, h1, h2, h3, h4⟩
  have e : st.bind (p.bind fun x => .pure (g x)) = (st.bind p).map fun q => (g q.1, q.2) := by
    rw [bind_st]
    cases st.bind p <;> rfl
  refine ⟨v, rfl, ?_, h2, fun hn => hD _ (h3 ?_), fun x r hx => ?_⟩
  · rw [e]
    cases hq : st.bind p with
    | none => rw [hq] at h1; exact h1
    | some q => rw [hq] at h1; exact h1
  · rw [e] at hn
    cases hq : st.bind p with
    | none => rfl
    | some q => rw [hq] at hn; cases hn
  · rw [e] at hx
    cases hq : st.bind p with
    | none => rw [hq] at hx; cases hx
    | some q =>
      rw [hq] at hx
      simp only [Option.map_some, Option.some.injEq, Prod.mk.injEq] at hx
      obtain ⟨rfl, rfl⟩ := hx
      cases st with
      | none => cases hq
      | some bs => exact hV _ _ _ q.1 bs q.2 hq (h4 q.1 q.2 hq)
theorem LeafRd.int {P : Program} {ver : Int} {flex : Bool} {f k : Nat} {m : Int} {lf : Leaf} {ik : IntKind} (hm : 0 < m) (h : RdC P f (rdInt k m) (fun _ _ v n => v = .int ik n) (fun v => v = .int ik 0)) (he : rdLeaf ver flex lf = (rdInt k m).bind fun n => .pure (.int n))
    (hL : ∀ O w (n : Int), -m ≤ n → n < m → LV O w flex (.int ik n) lf (.int n)) : LeafRd P ver flex f lf := by
  unfold LeafRd
  rw [he]
  refine h.map (fun O w v n bs r hp hv => ?_) (fun v hv => ?_)
  · subst hv
    obtain ⟨h1, h2, -⟩ := out_int hm hp
    exact hL O w n h1 h2
  · subst hv
    exact ⟨rfl, rfl⟩
theorem leafInt8 {ver : Int} {flex : Bool} : LeafRd Tryz.prog ver flex 61 .i8 := LeafRd.int (k := 1) (m := 128) (ik := .i8) (by decide) rInt8 rfl fun O w n h1 h2 => ⟨rfl, h1, by omega⟩
theorem leafInt16 {ver : Int} {flex : Bool} : LeafRd Tryz.prog ver flex 58 .i16 := LeafRd.int (k := 2) (m := 32768) (ik := .i16) (by decide) rInt16 rfl fun O w n h1 h2 => ⟨rfl, h1, by omega⟩
theorem leafInt32 {ver : Int} {flex : Bool} : LeafRd Tryz.prog ver flex 60 .i32 := LeafRd.int (k := 4) (m := 2147483648) (ik := .i32) (by decide) rInt32 rfl fun O w n h1 h2 => ⟨rfl, h1, by omega⟩
theorem leafInt64 {ver : Int} {flex : Bool} : LeafRd Tryz.prog ver flex 59 .i64 := LeafRd.int (k := 8) (m := 9223372036854775808) (ik := .i64) (by decide) rInt64 rfl fun O w n h1 h2 => rfl
theorem out_nat2 {n : Nat} {bs r : List UInt8} (h : rdNat 2 bs = some (n, r)) : n ≤ 65535 := by
  obtain ⟨l, r', h1, h2⟩ := bind_some h
  cases h2
  unfold rdTake at h1
  split at h1
  · cases h1
    match bs with
    | [] => simp [beNat]
    | [a] => have := a.toNat_lt; simp [beNat]; omega
    | a :: b :: t => have := a.toNat_lt; have := b.toNat_lt; simp [beNat]; omega
  · cases h1
theorem leafUint16 {ver : Int} {flex : Bool} : LeafRd Tryz.prog ver flex 89 .u16 := by
  refine rUint16.map (V' := fun O w v g => LV O w flex v .u16 g) (D' := One) (g := fun n : Nat => GV.int n) (fun O w v n bs r hp hv => ?_) (fun v hv => ?_)
  · subst hv
    have := out_nat2 hp
    exact ⟨rfl, by omega, by omega⟩
  · subst hv
    exact ⟨rfl, rfl⟩
theorem leafBool {ver : Int} {flex : Bool} : LeafRd Tryz.prog ver flex 87 .bool := by
  refine rBool.map (V' := fun O w v g => LV O w flex v .bool g) (D' := One) (g := fun n : Nat => GV.bool (decide (n ≠ 0))) (fun O w v n bs r hp hv => ?_) (fun v hv => ?_)
  · exact hv
  · subst hv
    exact ⟨rfl, rfl⟩
theorem leafString {ver : Int} : LeafRd Tryz.prog ver false 70 .str := fun O rb w st hO hlt hr => (rString O rb w st hO hlt hr).mono fun en w' ⟨v, h1, h2, h3, h4, h5⟩ => ⟨v, h1, h2, h3, fun hn => by
  have h := h4 hn
  subst h; exact ⟨rfl, rfl⟩, h5⟩
theorem leafCompactString {ver : Int} : LeafRd Tryz.prog ver true 69 .str := fun O rb w st hO hlt hr => (rCompactString O rb w st hO hlt hr).mono fun en w' ⟨v, h1, h2, h3, h4, h5⟩ => ⟨v, h1, h2, h3, fun hn => by
  have h := h4 hn
  subst h; exact ⟨rfl, rfl⟩, h5⟩
section
variable {RT : RTags} {P : Program} {N nt gE : Nat} {E : Value} {K : Slots} {lo t : Nat} {ver : Int} {flex : Bool}
/-- Behind the count. -/
theorem rdTail_mk {s bp rs u l i v t1 t2 t3 t4 t5 t6 t7 t8 t9 F F2 T T2 I e T' k U off esz lo' t' B B' r1 r2 r3 r4 r5 r6 r7 r8 r9 r10 UN U1 U2 U3 U4 U5 U6 : Nat}
    {y1 y2 y3 y4 y5 y6 y7 y8 y9 y10 y11 y12 y13 y14 y15 y16 y17 y18 y19 y20 y21 y22 y23 y24 y25 y26 y27 : Nat} {q1 q2 q3 q4 q5 q6 q7 q8 q9 q10 q11 q12 q13 q14 q15 q16 q17 q18 q19 q20 q21 q22 q23 q24 q25 q26 q27 : String} {g1 g2 g3 g4 g5 g6 g7 g8 g9 g10 g11 g12 g13 g14 g15 g16 g17 g18 g19 g20 g21 g22 g23 g24 g25 g26 g27 : Array Edge}
    {at_ at2 : Array TypeId} {c : Code} {nul : Option Int} {sch : Sch}
    (hRT : RTKeep RT) (hRM : RTMono RT) (hk : KOK N lo t ((s, .int .i64 0) :: (bp, .int .i64 0) :: K)) (hD : Dims N nt lo t) (hD' : Dims N nt lo' t')
    (heO : Enters P F) (hO : OkC P F) (heC : Enters P F2) (hC : CompleteC P F2 gE E) (hT : ElT P T e esz sch) (hT2 : ElT P T2 e esz sch) (hI : P.underlying I = some (.int .i32)) (hFA : FieldAt P T' k off) (hU : OneCell P U) (hesz : 0 < esz) (htop : top sch ≤ esz)
    (hd1 : t ≤ t1 ∧ t1 + 1 < nt ∧ t2 < nt ∧ rs < nt ∧ bp < lo ∧ t ≤ t3 ∧ t3 + 1 < nt ∧ t ≤ t4 ∧ t4 + 1 < nt ∧ t ≤ t5 ∧ t5 + 2 < nt ∧ t ≤ t6 ∧ t6 + 2 < nt ∧ t ≤ t7 ∧ t7 + 1 < nt ∧ t ≤ t8 ∧ t8 < nt ∧ t ≤ t9 ∧ t9 + 3 < nt)
    (hd2 : lo ≤ u ∧ u < N ∧ lo ≤ l ∧ l < N ∧ lo ≤ i ∧ i < N ∧ lo ≤ v ∧ v < N ∧ u < lo' ∧ l < lo' ∧ i < lo' ∧ lo ≤ lo' ∧ t ≤ t' ∧ u ≠ i ∧ l ≠ i ∧ u ≠ l) (hB : B ≠ B')
    (hEl : RdEl RT P N nt gE E ver flex K lo' t' u i bp rs c esz sch)
    :
    RdTail RT P N nt gE E ver flex K lo t s bp rs u l (((Code.region r1 #[⟨some t1, .call { callee := .value (.func F), args := #[.tmp bp], argTypes := at_ }, y1, q1, g1, none⟩, ⟨some (t1 + 1), .unOp .not UN (.tmp t1), y2, q2, g2, none⟩] false).seq
      (.cond (.tmp (t1 + 1)) ((Code.region r2 #[⟨some t2, .call { callee := .value (.func F2), args := #[.tmp bp], argTypes := at2 }, y3, q3, g3, none⟩, ⟨some rs, .assign (.tmp t2), y4, q4, g4, none⟩] false).seq .ret) .skip)).seq
    ((Code.region r3 #[⟨some t3, .move (.tmp u), y5, q5, g5, none⟩, ⟨some (t3 + 1), .slice T2 (.tmp t3) none (some (.const (.int .i64 0))) none, y6, q6, g6, none⟩, ⟨some u, .assign (.tmp (t3 + 1)), y7, q7, g7, none⟩] false).seq
    (((Code.region r4 #[⟨some t4, .move (.tmp l), y8, q8, g8, none⟩, ⟨some (t4 + 1), .binOp .gtr U1 (.tmp t4) (.const (.int .i32 0)) U2, y9, q9, g9, none⟩] false).seq
      (.cond (.tmp (t4 + 1)) (Code.region r5 #[⟨some t5, .move (.tmp u), y10, q10, g10, none⟩, ⟨some (t5 + 1), .move (.tmp l), y11, q11, g11, none⟩,
        ⟨some (t5 + 2), .call { callee := .builtin .append, args := #[.tmp t5, .tmp (t5 + 1)], argTypes := #[T, I] }, y12, q12, g12, none⟩, ⟨some u, .assign (.tmp (t5 + 2)), y13, q13, g13, none⟩] false) .skip)).seq
    (((Code.region r6 #[⟨some i, .assign (.const (.int .i32 0)), y14, q14, g14, none⟩] false).seq (.block B (.loop
      (((Code.region r7 #[⟨some t6, .move (.tmp i), y15, q15, g15, none⟩, ⟨some (t6 + 1), .move (.tmp l), y16, q16, g16, none⟩, ⟨some (t6 + 2), .binOp .lss U3 (.tmp t6) (.tmp (t6 + 1)) U4, y17, q17, g17, none⟩] false).seq (.cond (.tmp (t6 + 2)) .skip (.exit B))).seq
        ((Code.block B' c).seq (.region r8 #[⟨some t7, .move (.tmp i), y18, q18, g18, none⟩, ⟨some (t7 + 1), .binOp .add U5 (.tmp t7) (.const (.int .i32 1)) U6, y19, q19, g19, none⟩, ⟨some i, .assign (.tmp (t7 + 1)), y20, q20, g20, none⟩] false)))))).seq
    ((Code.region r9 #[⟨some t8, .move (.tmp u), y21, q21, g21, none⟩, ⟨some v, .assign (.tmp t8), y22, q22, g22, none⟩] false).seq
      (.region r10 #[⟨some t9, .move (.tmp s), y23, q23, g23, none⟩, ⟨some (t9 + 1), .move (.tmp v), y24, q24, g24, none⟩, ⟨some (t9 + 2), .nilCheck (.tmp t9), y25, q25, g25, none⟩, ⟨some (t9 + 3), .fieldAddr T' (.tmp (t9 + 2)) k, y26, q26, g26, none⟩,
        ⟨none, .store U (.tmp (t9 + 3)) (.tmp (t9 + 1)), y27, q27, g27, none⟩] false)))))) off nul esz sch :=
  fun O rb b o Tb a w cs st Q ad n g1 g2 g3 g4 g5 g6 g7 g8 g9 g10 => rd_tail hRT hRM hk hD hD' heO hO heC hC hT hT2 hI hFA hU hesz htop hd1 hd2 hB hEl O rb b o Tb a w cs st Q ad n g1 g2 g3 g4 g5 g6 g7 g8 (fun _ => .inr trivial) g9 g10
end
end Go.Proofs.YtmpilpgabelmiaaGreatDoor

/- Unknown tags: the map in memory, what it says; Set. -/
namespace Go.Proofs.YtmpilpgabelmiaaGreatDoor
open Go Go.RowKit Go.Maps
set_option linter.unusedVariables false

abbrev VD := DataW Value
/-- What a value of the map reads as: itself. -/
def R0 : Value → Option (VD × List MemPlace) := fun v => some (.held v, [])
def kl32 (k : Nat) : Lit := .int .u32 k
theorem kl32_wf {k : Nat} (h : k ≤ 4294967295) : (kl32 k).wf = true := by
  unfold kl32 Lit.wf
  simp [IntKind.min, IntKind.max, IntKind.bits, IntKind.signed]
  omega
theorem kl32_inj {j k : Nat} : kl32 j = kl32 k ↔ j = k := by
  unfold kl32
  simp
  omega
theorem kl32_key (k : Nat) : WideAt.IsKeyLit (kl32 k) := trivial
theorem tagKeyed : Keyed Tryz.prog 66 := int_keyed Tryz.underlying66
/-- The map that lies in a field: none, or a block. -/
def MapAt (w : World) (m : Option Nat) (n : Nat) (D : VD) : Prop := match m with
  | none => D = .map []
  | some g => w.ownsMap Tryz.prog 66 R0 g n D
theorem MapAt.isMap {w : World} {m : Option Nat} {n : Nat} {D : VD} (h : MapAt w m n D) : Tidy D := by
  cases m with
  | none => cases h; exact tidy_empty
  | some g => exact World.ownsMap.tidy h tagKeyed
/-- What the map says, as a list of tags. -/
structure View (O : List Nat) (w : World) (D : VD) (l : List (Nat × List UInt8)) : Prop where
  sorted : l.Pairwise fun p q => p.1 < q.1
  small : ∀ p, p ∈ l → p.1 ≤ 4294967295
  size : Maps.size D = l.length
  there : ∀ k bs, (k, bs) ∈ l → Maps.has D (kl32 k) = true ∧ ∃ v, (∀ z, D.atKey (kl32 k) z = .held v) ∧ RB O w v bs
  only : ∀ kl, Maps.has D kl = true → ∃ k bs, kl = kl32 k ∧ (k, bs) ∈ l
theorem View.keeps {O : List Nat} {w w' : World} {D : VD} {l : List (Nat × List UInt8)} (h : View O w D l) (hk : Keeps O w w') : View O w' D l :=
  ⟨h.sorted, h.small, h.size, fun k bs hm => by
    obtain ⟨h1, v, h2, h3⟩ := h.there k bs hm
    exact ⟨h1, v, h2, h3.keeps hk⟩, h.only⟩
theorem View.mono {O O' : List Nat} {w : World} {D : VD} {l : List (Nat × List UInt8)} (h : View O w D l) (hO : ∀ k, k ∈ O' → k ∈ O) : View O' w D l :=
  ⟨h.sorted, h.small, h.size, fun k bs hm => by
    obtain ⟨h1, v, h2, h3⟩ := h.there k bs hm
    exact ⟨h1, v, h2, h3.mono hO⟩, h.only⟩
theorem View.nil (O : List Nat) (w : World) : View O w (.map []) [] :=
  ⟨.nil, by simp, rfl, by simp, fun kl h => by simp [Maps.has] at h⟩
theorem mem_tagIns (k : Nat) (v : List UInt8) : ∀ (l : List (Nat × List UInt8)), l.Pairwise (fun p q => p.1 < q.1) → ∀ (p : Nat × List UInt8), p ∈ tagIns k v l ↔ p = (k, v) ∨ (p ∈ l ∧ p.1 ≠ k)
  | [], _, p => by simp [tagIns]
  | (j, u) :: r, h, p => by
    obtain ⟨h1, h2⟩ := List.pairwise_cons.1 h
    unfold tagIns
    split
    · rename_i hlt
      simp only [List.mem_cons]
      constructor
      · rintro (h | h | h)
        · exact .inl h
        · subst h; exact .inr ⟨.inl rfl, by simp only; omega⟩
        · have := h1 p h; exact .inr ⟨.inr h, by simp only at this ⊢; omega⟩
      · rintro (h | ⟨h, -⟩)
        · exact .inl h
        · exact .inr h
    · split
      · rename_i hn he
        subst he
        simp only [List.mem_cons]
        constructor
        · rintro (h | h)
          · exact .inl h
          · have := h1 p h; exact .inr ⟨.inr h, by simp only at this; omega⟩
        · rintro (h | ⟨h | h, hne⟩)
          · exact .inl h
          · subst h; exact absurd rfl hne
          · exact .inr h
      · rename_i hn he
        simp only [List.mem_cons, mem_tagIns k v r h2 p]
        constructor
        · rintro (h | h | ⟨h, hne⟩)
          · subst h; exact .inr ⟨.inl rfl, fun e => he e.symm⟩
          · exact .inl h
          · exact .inr ⟨.inr h, hne⟩
        · rintro (h | ⟨h | h, hne⟩)
          · exact .inr (.inl h)
          · exact .inl h
          · exact .inr (.inr ⟨h, hne⟩)
theorem sorted_tagIns (k : Nat) (v : List UInt8) : ∀ (l : List (Nat × List UInt8)), l.Pairwise (fun p q => p.1 < q.1) → (tagIns k v l).Pairwise fun p q => p.1 < q.1
  | [], _ => by simp [tagIns]
  | (j, u) :: r, h => by
    obtain ⟨h1, h2⟩ := List.pairwise_cons.1 h
    unfold tagIns
    split
    · rename_i hlt
      refine List.pairwise_cons.2 ⟨fun q hq => ?_, h⟩
      rcases List.mem_cons.1 hq with rfl | hq
      · exact hlt
      · exact Nat.lt_trans hlt (h1 q hq)
    · split
      · rename_i hn he
        subst he
        exact List.pairwise_cons.2 ⟨fun q hq => h1 q hq, h2⟩
      · rename_i hn he
        refine List.pairwise_cons.2 ⟨fun q hq => ?_, sorted_tagIns k v r h2⟩
        rcases (mem_tagIns k v r h2 q).1 hq with rfl | ⟨hq, -⟩
        · simp only; omega
        · exact h1 q hq
theorem length_tagIns (k : Nat) (v : List UInt8) : ∀ (l : List (Nat × List UInt8)), l.Pairwise (fun p q => p.1 < q.1) → (tagIns k v l).length = if l.any (fun p => p.1 == k) then l.length else l.length + 1
  | [], _ => by simp [tagIns]
  | (j, u) :: r, h => by
    obtain ⟨h1, h2⟩ := List.pairwise_cons.1 h
    unfold tagIns
    split
    · rename_i hlt
      rw [if_neg]
      · rfl
      · simp only [List.any_cons, Bool.or_eq_true, beq_iff_eq, List.any_eq_true, not_or, not_exists, not_and]
        refine ⟨by omega, fun q hq e => ?_⟩
        have := h1 q hq
        simp only at this
        omega
    · split
      · rename_i hn he
        subst he
        simp
      · rename_i hn he
        have e : ((j, u) :: r).any (fun p => p.1 == k) = r.any (fun p => p.1 == k) := by
          have : (j == k) = false := by simp; omega
          rw [List.any_cons, this, Bool.false_or]
        rw [e, List.length_cons, List.length_cons, length_tagIns k v r h2]
        split <;> rfl
theorem View.put {O : List Nat} {w : World} {D : VD} {l : List (Nat × List UInt8)} (h : View O w D l) (hT : Tidy D) {k : Nat} {bs : List UInt8} {v : Value} (hk : k ≤ 4294967295) (hv : RB O w v bs) : View O w (D.put (kl32 k) (.held v)) (tagIns k bs l) := by
  have hany : l.any (fun p => p.1 == k) = Maps.has D (kl32 k) := by
    rw [Bool.eq_iff_iff]
    simp only [List.any_eq_true, beq_iff_eq]
    constructor
    · rintro ⟨⟨k', bs'⟩, hm, rfl⟩
      exact (h.there _ _ hm).1
    · intro hh
      obtain ⟨k', bs', e, hm⟩ := h.only _ hh
      exact ⟨_, hm, (kl32_inj.1 e).symm⟩
  refine ⟨sorted_tagIns k bs l h.sorted, fun p hp => ?_, ?_, fun k' bs' hm => ?_, fun kl hh => ?_⟩
  · rcases (mem_tagIns k bs l h.sorted p).1 hp with rfl | ⟨hp, -⟩
    · exact hk
    · exact h.small p hp
  · rw [Maps.size_put hT, length_tagIns k bs l h.sorted, hany, h.size]
  · rcases (mem_tagIns k bs l h.sorted _).1 hm with e | ⟨hm, hne⟩
    · cases e
      exact ⟨has_put_same hT.isMap (kl32_key k) _, v, fun z => atKey_put_same hT.isMap (kl32_key k) _ z, hv⟩
    · have hne' : kl32 k' ≠ kl32 k := fun e => hne (kl32_inj.1 e)
      obtain ⟨h1, v', h2, h3⟩ := h.there k' bs' hm
      exact ⟨by rw [has_put_other hne']; exact h1, v', fun z => by rw [atKey_put_other hne']; exact h2 z, h3⟩
  · by_cases he : kl = kl32 k
    · exact ⟨k, bs, he, (mem_tagIns k bs l h.sorted _).2 (.inl rfl)⟩
    · rw [has_put_other he] at hh
      obtain ⟨k', bs', rfl, hm⟩ := h.only kl hh
      exact ⟨k', bs', rfl, (mem_tagIns k bs l h.sorted _).2 (.inr ⟨hm, fun e => he (congrArg kl32 e)⟩)⟩
/-- How tags lie in memory. -/
def TagMem : RTags := fun O w b o l => ∃ m n D, w.cell? ⟨b, o, none⟩ = some (.map m) ∧ MapAt w m n D ∧ n ≤ 4294967296 ∧ View O w D l ∧ (∀ g, m = some g → g ∉ O) ∧ l.length ≤ 4294967295 ∧ ∀ t, t ∈ l → t.2.length ≤ 4294967295
theorem ownsMap_block {P : Program} {k : TypeId} {R : Value → Option (VD × List MemPlace)} {w w' : World} {g n : Nat} {D : VD} (h : w.ownsMap P k R g n D) (hb : w'.heap[g]? = w.heap[g]?) : w'.ownsMap P k R g n D := by
  obtain ⟨es, clock, h1, h2⟩ := h
  exact ⟨es, clock, hb.trans h1, h2⟩
theorem MapAt.keeps {O : List Nat} {w w' : World} {m : Option Nat} {n : Nat} {D : VD} (h : MapAt w m n D) (hk : Keeps O w w') (hO : ∀ g, m = some g → g ∉ O) : MapAt w' m n D := by
  cases m with
  | none => exact h
  | some g => exact ownsMap_block h (hk.block g (World.ownsMap.lt h) (hO g rfl))
theorem tags_keep : RTKeep TagMem := by
  rintro O w w' b o l ⟨m, n, D, h1, h2, h3, h4, h5, h6⟩ hk hc
  exact ⟨m, n, D, hc.trans h1, h2.keeps hk h5, h3, h4.keeps hk, h5, h6⟩
theorem tags_mono : RTMono TagMem := by
  rintro O O' w b o l ⟨m, n, D, h1, h2, h3, h4, h5, h6⟩ hO
  exact ⟨m, n, D, h1, h2, h3, h4.mono hO, fun g hg hgO => h5 g hg (hO g hgO), h6⟩
theorem tags_zero : ∀ O w b o, w.cell? ⟨b, o, none⟩ = some (.map none) → TagMem O w b o [] := fun O w b o h => ⟨none, 0, .map [], h, rfl, by omega, View.nil O w, fun g hg => (by cases hg), by simp, by simp⟩

set_option maxHeartbeats 1000000 in
theorem tagsSet (w : World) (p T : Nat) (m : Option Nat) (n : Nat) (D : VD) (k : Nat) (v : Value) (hB : Blk w p [.map m] T) (hm : MapAt w m n D) (hn : n < maxLen) (hk : k ≤ 4294967295) (hp : ∀ g, m = some g → g ≠ p) :
    Calls Tryz.prog 73 #[.pointer (some ⟨p, 0, none⟩), .int .u32 (k : Nat), v] w fun e w' => e = .returned (.tuple #[]) ∧ ∃ g, Blk w' p [.map (some g)] T ∧ w'.ownsMap Tryz.prog 66 R0 g (n + 1) (D.put (kl32 k) (.held v)) ∧ ((m = some g ∧ Keeps [g] w w') ∨ (m = none ∧ g = w.heap.size ∧ Keeps [p] w w')) := by
  have hkey := keyOf_int_mk Tryz.underlying66 (kl32_wf hk)
  have m0 := hB.cell_some (i := 0) rfl
  have f0 := hB.frozen 0
  have qT : ∀ (w : World) (r : Option Nat), (binOp .eql 51 (.map r) (.map none)).run Tryz.prog w = .ok (.bool r.isNone) w := fun w r => run_eql_map_nil w _ _ _ r Tryz.underlying51
  cases m with
  | some g =>
    have hown : w.ownsMap Tryz.prog 66 R0 g n D := hm
    have hgp := hp g rfl
    clear hm hp
    have HB := Lib.hid hB
    clear hB
    go_enter Tryz.func73, Tryz.ntmps73
    go_wp2_with (first
      | (at_mapUpdate; refine wpList_mapUpdate_own _ rfl _ _ _ 51 rfl 66 22 tagKeyed Tryz.underlying51 _ g n D rfl hown hn _ _ _ rfl rfl hkey _ [] rfl ?_; intro w1 hown1 hgrow1)
      | go_in)
    go_end0
    have hk1 : Keeps [g] w w1 := (Keeps.refl [g] w).grown hgrow1 (fun j hj => .inl (by cases hj; simp))
    exact ⟨rfl, g, HB.out.keeps hk1 (by simpa using fun e => hgp e.symm), hown1, rfl, hk1⟩
  | none =>
    cases hm
    have hlt := hB.lt
    have hsz : (w.setCell ⟨p, 0, none⟩ (.map (some w.heap.size))).heap.size = w.heap.size := by simp [World.setCell]
    have hown : ((w.setCell ⟨p, 0, none⟩ (.map (some w.heap.size))).alloc (.map #[] 0)).ownsMap Tryz.prog 66 R0 w.heap.size 0 (.map []) := by
      have h := World.ownsMap_made (H := Value) (w.setCell ⟨p, 0, none⟩ (.map (some w.heap.size))) Tryz.prog 66 R0
      rwa [hsz] at h
    have h0 : 0 < maxLen := by unfold maxLen; omega
    have hmm := @run_makeMap Tryz.prog
    have HB := Lib.hid hB
    have HO := Lib.hid (And.intro h0 hown)
    clear hB hp h0 hown hsz
    go_enter Tryz.func73, Tryz.ntmps73
    go_wp2_with (first
      | (at_mapUpdate; refine wpList_mapUpdate_own _ rfl _ _ _ 51 rfl 66 22 tagKeyed Tryz.underlying51 _ w.heap.size 0 _ rfl HO.out.2 HO.out.1 _ _ _ rfl rfl hkey _ [] rfl ?_; intro w1 hown1 hgrow1)
      | go_in)
    go_end0
    have hB1 : Blk ((w.setCell ⟨p, 0, none⟩ (.map (some w.heap.size))).alloc (.map #[] 0)) p [.map (some w.heap.size)] T := (HB.out.set 0 _).keeps ((Keeps.refl [] _).alloc _) (by simp)
    have hk0 : Keeps [p] w ((w.setCell ⟨p, 0, none⟩ (.map (some w.heap.size))).alloc (.map #[] 0)) := ((Keeps.refl [p] w).setCell (by simp) _).alloc _
    have hk1 : Keeps [w.heap.size] ((w.setCell ⟨p, 0, none⟩ (.map (some w.heap.size))).alloc (.map #[] 0)) w1 := (Keeps.refl _ _).grown hgrow1 (fun j hj => .inl (by cases hj; simp))
    exact ⟨rfl, w.heap.size, hB1.keeps hk1 (by simp; omega), hown1.mono (by omega), rfl, ((hk0.mono (O' := [w.heap.size, p]) (by simp)).trans (hk1.mono (by simp))).close (Nat.le_refl _)⟩
end Go.Proofs.YtmpilpgabelmiaaGreatDoor

/- Unknown tags: reading them. -/
namespace Go.Proofs.YtmpilpgabelmiaaGreatDoor
open Go Go.RowKit Go.Maps
set_option linter.unusedVariables false

theorem uvVal {O : List Nat} {rb : Nat} {w : World} {st : Option (List UInt8)} {e : Ending} {w' : World} (h : RdPost rdUv (fun _ _ v n => v = .int .u32 (n : Nat)) (fun v => v = .int .u32 0) O rb w st e w') :
    ∃ k : Nat, e = .returned (.int .u32 (k : Nat)) ∧ k ≤ 4294967295 ∧ Rdr O w' rb ((st.bind rdUv).map (·.2)) ∧ Keeps [rb] w w' ∧ ∀ n r, st.bind rdUv = some (n, r) → n = k := by
  obtain ⟨v, rfl, h1, h2, h3, h4⟩ := h
  cases hx : st.bind rdUv with
  | none => exact ⟨0, by rw [h3 hx]; rfl, by omega, by rw [hx] at h1; exact h1, h2, fun n r h => by cases h⟩
  | some q =>
    refine ⟨q.1, by rw [h4 q.1 q.2 hx], ?_, by rw [hx] at h1; exact h1, h2, fun n r h => by cases h; rfl⟩
    cases st with
    | none => cases hx
    | some bs => exact (out_uv (r := q.2) hx).1
def tgO (p2 p3 : Nat) (m : Option Nat) (O : List Nat) : List Nat := match m with
  | none => p3 :: p2 :: O
  | some g => g :: p3 :: p2 :: O
theorem mem_tgO {p2 p3 : Nat} {m : Option Nat} {O : List Nat} {k : Nat} : k ∈ tgO p2 p3 m O ↔ m = some k ∨ k = p3 ∨ k = p2 ∨ k ∈ O := by
  cases m with
  | none => simp [tgO]
  | some g => simp [tgO, eq_comm]
/-- The loop, behind some rounds. -/
structure TgInv (O : List Nat) (rb p2 p3 T : Nat) (w0 : World) (st : Option (List UInt8)) (N j : Nat) (m : Option Nat) (D : VD) (v : Value) (wr : World) : Prop where
  le : j ≤ N
  val : v = .int .u32 ((N - j : Nat) : Int)
  b3 : Blk wr p3 [.map m] T
  b2 : Blk wr p2 [.map none] T
  map : MapAt wr m j D
  new : ∀ g, m = some g → w0.heap.size ≤ g ∧ g ≠ p2 ∧ g ≠ p3 ∧ g < wr.heap.size
  rdr : Rdr (tgO p2 p3 m O) wr rb ((st.bind (rdMany rdTag1 j)).map (·.2))
  keeps : Keeps [rb] w0 wr
  view : ∀ l r, st.bind (rdMany rdTag1 j) = some (l, r) → View (tgO p2 p3 m O) wr D (tagSort l)
theorem tagSort_snoc (l : List (Nat × List UInt8)) (k : Nat) (v : List UInt8) : tagSort (l ++ [(k, v)]) = tagIns k v (tagSort l) := by
  unfold tagSort
  rw [List.foldl_append]
  rfl
theorem many_st {α : Type} (p : Pr α) (j : Nat) (st : Option (List UInt8)) : st.bind (rdMany p (j + 1)) = (st.bind (rdMany p j)).bind fun q => (p q.2).bind fun r => some (q.1 ++ [r.1], r.2) := by
  cases st with
  | none => rfl
  | some bs =>
    change rdMany p (j + 1) bs = _
    rw [many_snoc]
    change _ = (rdMany p j bs).bind _
    cases h : rdMany p j bs with
    | none => rw [bind_none h]; rfl
    | some q =>
      rw [bind_eq (v := q.1) (r := q.2) h]
      change _ = (p q.2).bind _
      cases h2 : p q.2 with
      | none => rw [bind_none h2]; rfl
      | some r => rw [bind_eq (v := r.1) (r := r.2) h2]; rfl
theorem tag1_st (bs : List UInt8) : rdTag1 bs = (rdUv bs).bind fun a => (rdUv a.2).bind fun b => (rdSpan (b.1 : Nat) b.2).bind fun c => some ((a.1, c.1), c.2) := by
  unfold rdTag1
  cases h1 : rdUv bs with
  | none => rw [bind_none h1]; rfl
  | some a =>
    rw [bind_eq (v := a.1) (r := a.2) h1]
    simp only [Option.bind_some]
    cases h2 : rdUv a.2 with
    | none => rw [bind_none h2]; rfl
    | some b =>
      rw [bind_eq (v := b.1) (r := b.2) h2]
      simp only [Option.bind_some]
      have e : rdSpan (b.1 : Nat) = rdTake b.1 := by
        unfold rdSpan
        rw [if_neg (by omega), Int.toNat_natCast]
      rw [e]
      cases h3 : rdTake b.1 b.2 with
      | none => rw [bind_none h3]; rfl
      | some c => rw [bind_eq (v := c.1) (r := c.2) h3]; rfl
/-- One round, of what the calls say. -/
theorem tg_step {O : List Nat} {rb p2 p3 T : Nat} {w0 : World} {st : Option (List UInt8)} {N j : Nat} {m : Option Nat} {D : VD} {wr w1 w2 w3 w4 : World} {v v3 : Value} {k1 k2 g : Nat} (h : TgInv O rb p2 p3 T w0 st N j m D v wr) (hj : j < N)
    (hrb : rb ∈ O) (hO2 : p2 ∉ O) (hO3 : p3 ∉ O) (hp : p2 ≠ p3) (hw : w0.heap.size ≤ p2) (hw3 : w0.heap.size ≤ p3) (hr : rb < w0.heap.size)
    (h1 : Rdr (tgO p2 p3 m O) w1 rb ((((st.bind (rdMany rdTag1 j)).map (·.2)).bind rdUv).map (·.2)) ∧ Keeps [rb] wr w1 ∧ ∀ n r, ((st.bind (rdMany rdTag1 j)).map (·.2)).bind rdUv = some (n, r) → n = k1) (hk1 : k1 ≤ 4294967295)
    (h2 : Rdr (tgO p2 p3 m O) w2 rb ((((((st.bind (rdMany rdTag1 j)).map (·.2)).bind rdUv).map (·.2)).bind rdUv).map (·.2)) ∧ Keeps [rb] w1 w2 ∧ ∀ n r, ((((st.bind (rdMany rdTag1 j)).map (·.2)).bind rdUv).map (·.2)).bind rdUv = some (n, r) → n = k2)
    (h3 : Rdr (tgO p2 p3 m O) w3 rb ((((((((st.bind (rdMany rdTag1 j)).map (·.2)).bind rdUv).map (·.2)).bind rdUv).map (·.2)).bind (rdSpan (k2 : Nat))).map (·.2)) ∧ Keeps [rb] w2 w3 ∧ ∀ s r, ((((((st.bind (rdMany rdTag1 j)).map (·.2)).bind rdUv).map (·.2)).bind rdUv).map (·.2)).bind (rdSpan (k2 : Nat)) = some (s, r) → RB (tgO p2 p3 m O) w3 v3 s)
    (h4 : Blk w4 p3 [.map (some g)] T ∧ w4.ownsMap Tryz.prog 66 R0 g (j + 1) (D.put (kl32 k1) (.held v3)) ∧ ((m = some g ∧ Keeps [g] w3 w4) ∨ (m = none ∧ g = w3.heap.size ∧ Keeps [p3] w3 w4))) :
    TgInv O rb p2 p3 T w0 st N (j + 1) (some g) (D.put (kl32 k1) (.held v3)) (.int .u32 ((N - (j + 1) : Nat) : Int)) w4 := by
  obtain ⟨r1, a1, g1⟩ := h1
  obtain ⟨r2, a2, g2⟩ := h2
  obtain ⟨r3, a3, g3⟩ := h3
  obtain ⟨b4, o4, f4⟩ := h4
  have kr3 : Keeps [rb] wr w3 := (a1.trans a2).trans a3
  have hrb3 : rb ≠ p3 := by rintro rfl; omega
  have hrb2 : rb ≠ p2 := by rintro rfl; omega
  have b33 : Blk w3 p3 [.map m] T := h.b3.keeps kr3 (by simpa using fun e => hrb3 e.symm)
  have b23 : Blk w3 p2 [.map none] T := h.b2.keeps kr3 (by simpa using fun e => hrb2 e.symm)
  have hs3 := kr3.size
  have hk0 := h.keeps.size
  -- what turned in the store
  have hgn : w0.heap.size ≤ g ∧ g ≠ p2 ∧ g ≠ p3 := by
    rcases f4 with ⟨hm, -⟩ | ⟨-, hg, -⟩
    · have := h.new g hm; exact ⟨this.1, this.2.1, this.2.2.1⟩
    · have := b33.lt; have := b23.lt; exact ⟨by omega, by omega, by omega⟩
  have hk4 : Keeps (tgO p2 p3 m O) w3 w4 := by
    rcases f4 with ⟨hm, hk⟩ | ⟨hm, -, hk⟩
    · exact hk.mono fun k hk => by rw [List.mem_singleton] at hk; subst hk; exact mem_tgO.2 (.inl hm)
    · exact hk.mono fun k hk => by rw [List.mem_singleton] at hk; subst hk; exact mem_tgO.2 (.inr (.inl rfl))
  have hk4' : ∀ b, b ≠ g → b ≠ p3 → b < w3.heap.size → w4.heap[b]? = w3.heap[b]? := by
    intro b h1 h2 h3
    rcases f4 with ⟨hm, hk⟩ | ⟨hm, -, hk⟩
    · exact hk.block b h3 (by simpa using h1)
    · exact hk.block b h3 (by simpa using h2)
  have hkq : Keeps [g, p3] w3 w4 := by
    rcases f4 with ⟨hm, hk⟩ | ⟨hm, -, hk⟩
    · exact hk.mono (by simp)
    · exact hk.mono (by simp)
  have hgrb : rb ≠ g := by rintro rfl; omega
  -- the reader and what was read, with the new block open
  have hopen : ∀ {s : Option (List UInt8)}, Rdr (tgO p2 p3 m O) w3 rb s → Rdr (tgO p2 p3 (some g) O) w4 rb s := by
    intro s hs
    have hs4 : Rdr (tgO p2 p3 (some g) O) w3 rb s := by
      rcases f4 with ⟨hm, -⟩ | ⟨hm, hg, -⟩
      · rw [← hm]; exact hs
      · subst hm; exact hs.open (by omega)
    exact hs4.other hkq (by simp; exact ⟨hgrb, hrb3⟩) (by intro k hk; simp at hk; rcases hk with rfl | rfl <;> exact mem_tgO.2 (by simp))
  have hRBo : ∀ {x : Value} {s : List UInt8}, RB (tgO p2 p3 m O) w3 x s → RB (tgO p2 p3 (some g) O) w4 x s := by
    intro x s hs
    have hs4 : RB (tgO p2 p3 (some g) O) w3 x s := by
      rcases f4 with ⟨hm, -⟩ | ⟨hm, hg, -⟩
      · rw [← hm]; exact hs
      · subst hm; exact hs.openNew (by omega)
    exact hs4.keeps (hkq.mono (by intro k hk; simp at hk; rcases hk with rfl | rfl <;> exact mem_tgO.2 (by simp)))
  have hst : st.bind (rdMany rdTag1 (j + 1)) = (((((st.bind (rdMany rdTag1 j)).map (·.2)).bind rdUv).map (·.2)).bind rdUv).bind fun b => (rdSpan (b.1 : Nat) b.2).bind fun c => some ((((st.bind (rdMany rdTag1 j)).map (·.1)).getD []) ++ [(k1, c.1)], c.2) := by
    rw [many_st]
    cases hq : st.bind (rdMany rdTag1 j) with
    | none => rfl
    | some q =>
      rw [hq] at g1
      simp only [Option.bind_some, Option.map_some, Option.getD_some] at g1 ⊢
      rw [tag1_st]
      cases hu : rdUv q.2 with
      | none => rfl
      | some a =>
        have := g1 a.1 a.2 hu
        subst this
        simp only [Option.bind_some, Option.map_some]
        cases hu2 : rdUv a.2 with
        | none => rfl
        | some b =>
          simp only [Option.bind_some]
          cases rdSpan (b.1 : Nat) b.2 <;> rfl
  refine ⟨by omega, rfl, b4, ?_, o4, fun g' hg' => ?_, ?_, ?_, fun l r hl => ?_⟩
  · exact (hk4' p2 hgn.2.1.symm hp b23.lt).trans b23
  · cases hg'
    exact ⟨hgn.1, hgn.2.1, hgn.2.2, World.ownsMap.lt o4⟩
  · have e : ((st.bind (rdMany rdTag1 (j + 1))).map (·.2)) = (((((((st.bind (rdMany rdTag1 j)).map (·.2)).bind rdUv).map (·.2)).bind rdUv).map (·.2)).bind (rdSpan (k2 : Nat))).map (·.2) := by
      rw [hst]
      cases hx : ((((st.bind (rdMany rdTag1 j)).map (·.2)).bind rdUv).map (·.2)).bind rdUv with
      | none => rfl
      | some b =>
        have := g2 b.1 b.2 hx
        subst this
        simp only [Option.bind_some, Option.map_some]
        cases rdSpan (b.1 : Nat) b.2 <;> rfl
    rw [e]
    exact hopen r3
  · have k03 : Keeps [rb] w0 w3 := h.keeps.trans kr3
    have k04 : Keeps [g, p3, rb] w0 w4 := (k03.mono (by simp)).trans (hkq.mono (by simp))
    exact (k04.close hgn.1).close hw3
  · rw [hst] at hl
    cases hx : ((((st.bind (rdMany rdTag1 j)).map (·.2)).bind rdUv).map (·.2)).bind rdUv with
    | none => rw [hx] at hl; cases hl
    | some b =>
      rw [hx] at hl g3
      have := g2 b.1 b.2 hx
      subst this
      simp only [Option.bind_some, Option.map_some] at hl g3
      cases hy : rdSpan (b.1 : Nat) b.2 with
      | none => rw [hy] at hl; cases hl
      | some c =>
        rw [hy] at hl g3
        simp only [Option.bind_some, Option.some.injEq, Prod.mk.injEq] at hl
        obtain ⟨rfl, rfl⟩ := hl
        cases hq : st.bind (rdMany rdTag1 j) with
        | none => rw [hq] at hx; cases hx
        | some q =>
          have hv := h.view q.1 q.2 hq
          simp only [Option.map_some, Option.getD_some]
          rw [tagSort_snoc]
          have hT : Tidy D := h.map.isMap
          have hV4 : View (tgO p2 p3 (some g) O) w4 D (tagSort q.1) := by
            have hv3 := hv.keeps (kr3.mono (fun k hk => by rw [List.mem_singleton] at hk; subst hk; exact mem_tgO.2 (.inr (.inr (.inr hrb)))))
            exact ⟨hv3.sorted, hv3.small, hv3.size, fun k bs hm => by
              obtain ⟨u1, u2, u3, u4⟩ := hv3.there k bs hm
              exact ⟨u1, u2, u3, hRBo u4⟩, hv3.only⟩
          exact hV4.put hT hk1 (hRBo (g3 c.1 c.2 rfl))
end Go.Proofs.YtmpilpgabelmiaaGreatDoor

/- Unknown tags: internalReadTags. -/
namespace Go.Proofs.YtmpilpgabelmiaaGreatDoor
open Go Go.RowKit Go.Maps
set_option linter.unusedVariables false

def numOf : Value → Nat
  | .int _ n => n.toNat
  | _ => 0
theorem tg_start {O : List Nat} {rb T : Nat} {w w1 : World} {st : Option (List UInt8)} {N : Nat} (hlt : ∀ k, k ∈ O → k < w.heap.size) (hrb : rb ∈ O)
    (hb2 : Blk w1 w.heap.size [.map none] T) (hb3 : Blk w1 (w.heap.size + 1) [.map none] T) (hr : Rdr ((w.heap.size + 1) :: w.heap.size :: O) w1 rb st) (hk : Keeps [rb] w w1) :
    TgInv O rb w.heap.size (w.heap.size + 1) T w st N 0 none (.map []) (.int .u32 (N : Nat)) w1 := by
  have e : st.bind (rdMany rdTag1 0) = st.map fun bs => ([], bs) := by cases st <;> rfl
  refine ⟨by omega, by simp, hb3, hb2, rfl, fun g hg => (by cases hg), ?_, hk, fun l r hl => ?_⟩
  · rw [e, Option.map_map]
    have : (Option.map ((fun x : List (Nat × List UInt8) × List UInt8 => x.2) ∘ fun bs => ([], bs)) st) = st := by cases st <;> rfl
    rw [this]
    exact hr
  · rw [e] at hl
    cases st with
    | none => cases hl
    | some bs =>
      simp only [Option.map_some, Option.some.injEq, Prod.mk.injEq] at hl
      obtain ⟨rfl, rfl⟩ := hl
      exact View.nil _ _
def TagPost (O : List Nat) (rb : Nat) (w : World) (st : Option (List UInt8)) (e : Ending) (w' : World) : Prop :=
  ∃ m, e = .returned (.agg #[.map m]) ∧ Rdr O w' rb ((st.bind rdTagsRaw).map (·.2)) ∧ Keeps [rb] w w' ∧ ∀ l r, st.bind rdTagsRaw = some (l, r) → ∀ (w2 : World) (b o : Nat), Keeps O w' w2 → w2.cell? ⟨b, o, none⟩ = some (.map m) → TagMem O w2 b o (tagSort l)
theorem tg_end {O : List Nat} {rb T N j : Nat} {w wr : World} {st : Option (List UInt8)} {m : Option Nat} {D : VD} {v : Value} (h : TgInv O rb w.heap.size (w.heap.size + 1) T w ((st.bind rdUv).map (·.2)) N j m D v wr) (hj : j = N) (hrb : rb ∈ O) (hlt : ∀ k, k ∈ O → k < w.heap.size)
    (hg : ∀ n r, st.bind rdUv = some (n, r) → n = N) (hN : N ≤ 4294967296) (hM : ∀ bs, st = some bs → bs.length ≤ lim) : TagPost O rb w st (.returned (.agg #[.map m])) (wr.setCell ⟨w.heap.size, 0, none⟩ (.map m)) := by
  subst hj
  have hrbl := hlt rb hrb
  have hk : Keeps [w.heap.size] wr (wr.setCell ⟨w.heap.size, 0, none⟩ (.map m)) := (Keeps.refl _ _).setCell (by simp) _
  have hO2 : w.heap.size ∉ O := fun h => Nat.lt_irrefl _ (hlt _ h)
  have hkO : Keeps (tgO w.heap.size (w.heap.size + 1) m O) wr (wr.setCell ⟨w.heap.size, 0, none⟩ (.map m)) := hk.mono fun k hk => by rw [List.mem_singleton] at hk; subst hk; exact mem_tgO.2 (.inr (.inr (.inl rfl)))
  have e : st.bind rdTagsRaw = ((st.bind rdUv).map (·.2)).bind (rdMany rdTag1 j) := by
    unfold rdTagsRaw
    rw [bind_st]
    cases hx : st.bind rdUv with
    | none => rfl
    | some q =>
      have := hg q.1 q.2 hx
      subst this
      rfl
  refine ⟨m, rfl, ?_, ?_, fun l r hl w2 b o hk2 hc => ⟨m, j, D, hc, ?_, hN, ?_, fun g hg' hgO => ?_, ?_⟩⟩
  · rw [e]
    exact (h.rdr.other hk (by simp; omega) (by intro k hk'; rw [List.mem_singleton] at hk'; subst hk'; exact mem_tgO.2 (.inr (.inr (.inl rfl))))).mono fun k hk => mem_tgO.2 (.inr (.inr (.inr hk)))
  · exact ((h.keeps.mono (O' := [w.heap.size, rb]) (by simp)).trans (hk.mono (by simp))).close (Nat.le_refl _)
  · have h1 : MapAt (wr.setCell ⟨w.heap.size, 0, none⟩ (.map m)) m j D := h.map.keeps hk (fun g hg => by have := (h.new g hg).2.1; simpa using this)
    exact h1.keeps hk2 (fun g hg hgO => by have h1 := (h.new g hg).1; have := hlt g hgO; omega)
  · rw [e] at hl
    exact ((h.view l r hl).keeps hkO |>.mono fun k hk => mem_tgO.2 (.inr (.inr (.inr hk)))).keeps hk2
  · have h1 := (h.new g hg').1
    have := hlt g hgO
    omega
  · cases st with
    | none => cases hl
    | some bs =>
      obtain ⟨a1, a2, a3, a4, a5, a6⟩ := out_tagsRaw (by have := hM bs rfl; unfold lim at this; unfold M; omega) hl
      exact ⟨by omega, fun t ht => (a5 t ht).2⟩
theorem results_cell1 {fn : Func} {t U : Nat} {P : Program} {w : World} {ad : Addr} {x : Value} {tmps : Array Value} (h : fn.results = #[.cell t U]) (ht : tmps.getD t undef = .pointer (some ad)) (hU : ManyCells P U 1) (hc : w.cell? ad = some x) :
    (results fn tmps).run P w = .ok (.agg #[x]) w := by
  have h1 := run_load_many (P := P) hU (w := w) (ad := ad) (l := [x]) rfl (fun j v hj => by
    cases j with
    | zero => cases hj; rw [show ad.add 0 = ad by cases ad; simp [Addr.add]]; exact hc
    | succ j => simp at hj)
  have h2 : (loadVar U ad).run P w = .ok (.agg #[x]) w := by simpa [Instr.loadAt, Instr.sureAddr] using h1
  have h3 : tmps[t]?.getD undef = .pointer (some ad) := by simpa using ht
  simp [results, h, h3, asAddr, h2]
theorem mcTags : ManyCells Tryz.prog 53 1 := ⟨fun w => Tryz.isAgg53 w, ⟨Tryz.t53, _, by kernel_rfl, rfl, rfl, rfl⟩⟩
theorem cell_after {O : List Nat} {rb T N j : Nat} {w wr : World} {st : Option (List UInt8)} {m : Option Nat} {D : VD} {v : Value} (h : TgInv O rb w.heap.size (w.heap.size + 1) T w st N j m D v wr) : (wr.setCell ⟨w.heap.size, 0, none⟩ (.map m)).cell? ⟨w.heap.size, 0, none⟩ = some (.map m) := (h.b2.set 0 (.map m)).cell_some (i := 0) rfl
set_option maxHeartbeats 4000000 in
theorem tagsRead0 (O : List Nat) (rb : Nat) (w : World) (st : Option (List UInt8)) (hO : rb ∈ O) (hlt : ∀ k, k ∈ O → k < w.heap.size) (hr : Rdr O w rb st) : Calls Tryz.prog 71 #[.pointer (some ⟨rb, 0, none⟩)] w (TagPost O rb w st) := by
  have hb2 : Blk ((w.alloc (.cells #[.map none] 53)).alloc (.cells #[.map none] 53)) w.heap.size [.map none] 53 := by
    have h0 : Blk (w.alloc (.cells #[.map none] 53)) w.heap.size [.map none] 53 := heap_alloc_new w _
    exact h0.keeps ((Keeps.refl [] _).alloc _) (by simp)
  have hb3 : Blk ((w.alloc (.cells #[.map none] 53)).alloc (.cells #[.map none] 53)) (w.heap.size + 1) [.map none] 53 := by
    have h0 : Blk ((w.alloc (.cells #[.map none] 53)).alloc (.cells #[.map none] 53)) (w.alloc (.cells #[.map none] 53)).heap.size [.map none] 53 := heap_alloc_new _ _
    simpa using h0
  have hk2 : Keeps [] w ((w.alloc (.cells #[.map none] 53)).alloc (.cells #[.map none] 53)) := ((Keeps.refl [] w).alloc _).alloc _
  have hr2 : Rdr ((w.heap.size + 1) :: w.heap.size :: O) ((w.alloc (.cells #[.map none] 53)).alloc (.cells #[.map none] 53)) rb st :=
    ((hr.open (Nat.le_refl _)).open (Nat.le_succ _)).other hk2 (by simp) (by simp)
  have hlt2 : ∀ k, k ∈ (w.heap.size + 1) :: w.heap.size :: O → k < ((w.alloc (.cells #[.map none] 53)).alloc (.cells #[.map none] 53)).heap.size := by
    intro k hk
    simp only [List.mem_cons] at hk
    rcases hk with rfl | rfl | hk
    · exact hb3.lt
    · exact hb2.lt
    · exact Nat.lt_of_lt_of_le (hlt k hk) hk2.size
  have C := Lib.hid (rUvarint _ rb _ st (List.mem_cons_of_mem _ (List.mem_cons_of_mem _ hO)) hlt2 hr2)
  have hrbl := hlt rb hO
  have HM := Lib.hid (show ∀ bs, st = some bs → bs.length ≤ lim from fun bs h => by subst h; obtain ⟨sv, h1, h2, h3⟩ := hr; exact h3)
  have HR := Lib.hid (And.intro hb2 (And.intro hb3 (And.intro (hk2.mono (O' := [rb]) (by simp)) (And.intro hlt (And.intro hO hrbl)))))
  clear hr hlt hO hb2 hb3 hr2 hlt2 hk2 hrbl
  go_enter Tryz.func71, Tryz.ntmps71
  go_wp2_with fail
  refine C.out.mono ?_
  intro e w1 hp
  obtain ⟨N, rfl, hN, h1, hk1, hg1⟩ := uvVal hp
  have hst := tg_start (st := (st.bind rdUv).map (·.2)) (N := N) HR.out.2.2.2.1 HR.out.2.2.2.2.1 (HR.out.1.keeps hk1 (by have := HR.out.2.2.2.2.2; simp; omega)) (HR.out.2.1.keeps hk1 (by have := HR.out.2.2.2.2.2; simp; omega)) h1 (HR.out.2.2.1.trans hk1)
  have HS := Lib.hid hst
  have HG := Lib.hid (And.intro hg1 hN)
  clear hp C h1 hk1 hg1 hst hN
  go_wp2
  go_loopw [4] (fun v wr => ∃ j m D, TgInv O rb w.heap.size (w.heap.size + 1) 53 w ((st.bind rdUv).map (·.2)) N j m D v wr) (fun v _ => numOf v)
  case atStart => exact ⟨0, none, .map [], HS.out⟩
  case round =>
    obtain ⟨j, m, D, hI⟩ := hrel
    obtain rfl := hI.val
    have hltO : ∀ k, k ∈ tgO w.heap.size (w.heap.size + 1) m O → k < wr.heap.size := by
      intro k hk
      rcases mem_tgO.1 hk with h | rfl | rfl | h
      · exact (hI.new k h).2.2.2
      · exact hI.b3.lt
      · exact hI.b2.lt
      · exact Nat.lt_of_lt_of_le (HR.out.2.2.2.1 k h) hI.keeps.size
    have hrbO : rb ∈ tgO w.heap.size (w.heap.size + 1) m O := mem_tgO.2 (.inr (.inr (.inr HR.out.2.2.2.2.1)))
    have HI := Lib.hid (And.intro hI (And.intro hltO hrbO))
    by_cases hj : j < N
    · have C1 := Lib.hid (rUvarint _ rb wr _ hrbO hltO hI.rdr)
      clear hI hltO hrbO
      have HJ := Lib.hid hj
      have hq : ∃ q : Nat, N - j = q ∧ 0 < q ∧ q ≤ 4294967295 := ⟨N - j, rfl, by omega, by have := HG.out.2; omega⟩
      obtain ⟨q, hq, hq0, hq1⟩ := hq
      rw [hq]
      have HQ := Lib.hid hq
      have hz0 : (0 : Int) < (q : Nat) := by omega
      have hz1 : ((q : Nat) : Int) ≤ 4294967295 := by omega
      clear hq hj hq0 hq1
      go_wp2_with fail
      refine C1.out.mono ?_
      intro e w1 hp
      obtain ⟨k1, rfl, hk1, r1, a1, g1⟩ := uvVal hp
      have C2 := Lib.hid (rUvarint _ rb w1 _ HI.out.2.2 (hlt_on HI.out.2.1 a1) r1)
      have H1 := Lib.hid (And.intro hk1 (And.intro r1 (And.intro a1 g1)))
      clear hp C1 hk1 r1 a1 g1
      go_wp2_with fail
      refine C2.out.mono ?_
      intro e w2 hp
      obtain ⟨k2, rfl, hk2, r2, a2, g2⟩ := uvVal hp
      have C3 := Lib.hid (rSpan _ rb w2 _ (k2 : Nat) HI.out.2.2 (hlt_on (hlt_on HI.out.2.1 H1.out.2.2.1) a2) r2)
      have hz2 : (0 : Int) ≤ (k2 : Nat) := by omega
      have hz3 : ((k2 : Nat) : Int) ≤ 4294967295 := by omega
      have H2 := Lib.hid (And.intro r2 (And.intro a2 g2))
      clear hp C2 hk2 r2 a2 g2
      go_wp2_with fail
      refine C3.out.mono ?_
      rintro e w3 ⟨v3, rfl, r3, a3, -, g3⟩
      have a13 := (H1.out.2.2.1.trans H2.out.2.1).trans a3
      have hrbw := HR.out.2.2.2.2.2
      have C4 := Lib.hid (tagsSet w3 (w.heap.size + 1) 53 m j D k1 v3 (HI.out.1.b3.keeps a13 (by simp; omega)) (HI.out.1.map.keeps a13 (fun g hg => by have := (HI.out.1.new g hg).1; simp; omega)) (by have := HJ.out; have := HG.out.2; unfold maxLen; omega) H1.out.1 (fun g hg => (HI.out.1.new g hg).2.2.1))
      have H3 := Lib.hid (And.intro r3 (And.intro a3 g3))
      clear C3 r3 a3 g3 a13 hrbw
      go_wp2_with fail
      refine C4.out.mono ?_
      rintro e w4 ⟨rfl, g, c1, c2, c3⟩
      have hstep := tg_step HI.out.1 HJ.out HR.out.2.2.2.2.1 (fun h => Nat.lt_irrefl _ (HR.out.2.2.2.1 _ h)) (fun h => by have := HR.out.2.2.2.1 _ h; omega) (by omega) (Nat.le_refl _) (Nat.le_succ _) HR.out.2.2.2.2.2 H1.out.2 H1.out.1 H2.out H3.out ⟨c1, c2, c3⟩
      have HS4 := Lib.hid hstep
      clear C4 c1 c2 c3 hstep
      go_wp2
      go_roundw
      case rel =>
        refine ⟨j + 1, some g, D.put (kl32 k1) (.held v3), ?_⟩
        have h := HS4.out
        have e1 : ((N - (j + 1) : Nat) : Int) = (q : Int) - 1 := by have := HQ.out; have := HJ.out; omega
        rw [e1] at h
        exact h
      case measure =>
        simp only [numOf]
        omega
    · have hN : N - j = 0 := by omega
      rw [hN]
      have HN := Lib.hid (show j = N by have := hI.le; omega)
      have m3 := hI.b3.cell_some (i := 0) rfl
      have f3 := hI.b3.frozen 0
      have m2 := hI.b2.cell_some (i := 0) rfl
      have f2 := hI.b2.frozen 0
      clear hI hltO hrbO hj hN
      go_wp2
      refine bodyPost_ret (results_cell1 (ad := ⟨w.heap.size, 0, none⟩) (x := .map m) rfl rfl mcTags (cell_after HI.out.1)) rfl ?_
      exact tg_end HI.out.1 HN.out HR.out.2.2.2.2.1 HR.out.2.2.2.1 HG.out.1 (by have := HG.out.2; omega) HM.out
theorem tagsRead : TagsRd TagMem Tryz.prog 71 := fun O rb w st hO hlt hr => tagsRead0 O rb w st hO hlt hr
end Go.Proofs.YtmpilpgabelmiaaGreatDoor
