/- The reader's functions as readers of kinds; a list behind its count; sixteen octets. -/
import Derived.Test.YtellhjpdpaeieaaDoorRq
import Derived.Test.YtellhjpdpaeieaaDoorRw
import Derived.Test.YtellhjpdpaeieaaDoorRdo
namespace Go.Proofs.YtellhjpdpaeieaaDoor
open Go Go.RowKit
set_option linter.unusedVariables false

theorem RdC.map {α β : Type} {P : Program} {f : Nat} {p : Pr α} {g : α → β} {V : List Nat → World → Value → α → Prop} {D D' : Value → Prop} {V' : List Nat → World → Value → β → Prop} (h : RdC P f p V D) (hV : ∀ O w v x bs r, p bs = some (x, r) → V O w v x → V' O w v (g x)) (hD : ∀ v, D v → D' v) :
    RdC P f (p.bind fun x => .pure (g x)) V' D' := by
  intro O rb w st hO hlt hr
  refine (h O rb w st hO hlt hr).mono ?_
  rintro en w' ⟨v, rfl, h1, h2, h3, h4⟩
  have e : st.bind (p.bind fun x => .pure (g x)) = (st.bind p).map fun q => (g q.1, q.2) := by
    rw [bind_st]
    cases st.bind p <;> rfl
  refine ⟨v, rfl, ?_, h2, fun hn => hD _ (h3 ?_), fun x r hx => ?_⟩
  · rw [e]
    cases hq : st.bind p with
    | none => rw [hq] at h1; exact h1
    | some q => rw [hq] at h1; exact h1
  · rw [e] at hn
    cases hq : st.bind p with
    | none => rfl
    | some q => rw [hq] at hn; cases hn
  · rw [e] at hx
    cases hq : st.bind p with
    | none => rw [hq] at hx; cases hx
    | some q =>
      rw [hq] at hx
      simp only [Option.map_some, Option.some.injEq, Prod.mk.injEq] at hx
      obtain ⟨rfl, rfl⟩ := hx
      cases st with
      | none => cases hq
      | some bs => exact hV _ _ _ q.1 bs q.2 hq (h4 q.1 q.2 hq)
theorem LeafRd.int {P : Program} {ver : Int} {flex : Bool} {f k : Nat} {m : Int} {lf : Leaf} {ik : IntKind} (hm : 0 < m) (h : RdC P f (rdInt k m) (fun _ _ v n => v = .int ik n) (fun v => v = .int ik 0)) (he : rdLeaf ver flex lf = (rdInt k m).bind fun n => .pure (.int n))
    (hL : ∀ O w (n : Int), -m ≤ n → n < m → LV O w flex (.int ik n) lf (.int n)) : LeafRd P ver flex f lf := by
  unfold LeafRd
  rw [he]
  refine h.map (fun O w v n bs r hp hv => ?_) (fun v hv => ?_)
  · subst hv
    obtain ⟨h1, h2, -⟩ := out_int hm hp
    exact hL O w n h1 h2
  · subst hv
    exact ⟨rfl, rfl⟩
theorem leafInt16 {ver : Int} {flex : Bool} : LeafRd Tryd.prog ver flex 99 .i16 := LeafRd.int (k := 2) (m := 32768) (ik := .i16) (by decide) rInt16 rfl fun O w n h1 h2 => ⟨rfl, h1, by omega⟩
theorem leafInt32 {ver : Int} {flex : Bool} : LeafRd Tryd.prog ver flex 81 .i32 := LeafRd.int (k := 4) (m := 2147483648) (ik := .i32) (by decide) rInt32 rfl fun O w n h1 h2 => ⟨rfl, h1, by omega⟩
theorem leafInt64 {ver : Int} {flex : Bool} : LeafRd Tryd.prog ver flex 113 .i64 := LeafRd.int (k := 8) (m := 9223372036854775808) (ik := .i64) (by decide) rInt64 rfl fun O w n h1 h2 => rfl
theorem leafBool {ver : Int} {flex : Bool} : LeafRd Tryd.prog ver flex 109 .bool := by
  refine rBool.map (V' := fun O w v g => LV O w flex v .bool g) (D' := One) (g := fun n : Nat => GV.bool (decide (n ≠ 0))) (fun O w v n bs r hp hv => ?_) (fun v hv => ?_)
  · exact hv
  · subst hv
    exact ⟨rfl, rfl⟩
theorem leafString {ver : Int} : LeafRd Tryd.prog ver false 95 .str := fun O rb w st hO hlt hr => (rString O rb w st hO hlt hr).mono fun en w' ⟨v, h1, h2, h3, h4, h5⟩ => ⟨v, h1, h2, h3, fun hn => by
  have h := h4 hn
  subst h; exact ⟨rfl, rfl⟩, h5⟩
theorem leafCompactString {ver : Int} : LeafRd Tryd.prog ver true 94 .str := fun O rb w st hO hlt hr => (rCompactString O rb w st hO hlt hr).mono fun en w' ⟨v, h1, h2, h3, h4, h5⟩ => ⟨v, h1, h2, h3, fun hn => by
  have h := h4 hn
  subst h; exact ⟨rfl, rfl⟩, h5⟩
theorem leafNullableString {ver : Int} : LeafRd Tryd.prog ver false 103 .nstr := fun O rb w st hO hlt hr => (rNullableString O rb w st hO hlt hr).mono fun en w' ⟨v, h1, h2, h3, h4, h5⟩ => ⟨v, h1, h2, h3, fun hn => by
  have h := h4 hn
  first | (subst h; exact ⟨rfl, rfl⟩) | (obtain ⟨a, rfl⟩ := h; exact ⟨rfl, rfl⟩), h5⟩
theorem leafFromNullableString {ver m : Int} (hm : m ≤ ver) : LeafRd Tryd.prog ver false 103 (.nstrFrom m) := fun O rb w st hO hlt hr => by
  have e : rdLeaf ver false (.nstrFrom m) = rdLeaf ver false .nstr := by
    simp only [rdLeaf]
    rw [if_neg (by omega)]
  rw [e]
  exact (leafNullableString (ver := ver) O rb w st hO hlt hr).mono fun en w' ⟨v, h1, h2, h3, h4, h5⟩ => ⟨v, h1, h2, h3, h4, fun x r hx => by
    have h := h5 x r hx
    cases x <;> exact h⟩
theorem leafCompactNullableString {ver : Int} : LeafRd Tryd.prog ver true 101 .nstr := fun O rb w st hO hlt hr => (rCompactNullableString O rb w st hO hlt hr).mono fun en w' ⟨v, h1, h2, h3, h4, h5⟩ => ⟨v, h1, h2, h3, fun hn => by
  have h := h4 hn
  first | (subst h; exact ⟨rfl, rfl⟩) | (obtain ⟨a, rfl⟩ := h; exact ⟨rfl, rfl⟩), h5⟩
theorem leafFromCompactNullableString {ver m : Int} (hm : m ≤ ver) : LeafRd Tryd.prog ver true 101 (.nstrFrom m) := fun O rb w st hO hlt hr => by
  have e : rdLeaf ver true (.nstrFrom m) = rdLeaf ver true .nstr := by
    simp only [rdLeaf]
    rw [if_neg (by omega)]
  rw [e]
  exact (leafCompactNullableString (ver := ver) O rb w st hO hlt hr).mono fun en w' ⟨v, h1, h2, h3, h4, h5⟩ => ⟨v, h1, h2, h3, h4, fun x r hx => by
    have h := h5 x r hx
    cases x <;> exact h⟩
section
variable {RT : RTags} {P : Program} {N nt gE : Nat} {E : Value} {K : Slots} {lo t : Nat} {ver : Int} {flex : Bool}
/-- Behind the count. -/
theorem rdTail_mk {s bp rs u l i v t1 t2 t3 t4 t5 t6 t7 t8 t9 F F2 T T2 I e T' k U off esz lo' t' B B' r1 r2 r3 r4 r5 r6 r7 r8 r9 r10 UN U1 U2 U3 U4 U5 U6 : Nat}
    {y1 y2 y3 y4 y5 y6 y7 y8 y9 y10 y11 y12 y13 y14 y15 y16 y17 y18 y19 y20 y21 y22 y23 y24 y25 y26 y27 : Nat} {q1 q2 q3 q4 q5 q6 q7 q8 q9 q10 q11 q12 q13 q14 q15 q16 q17 q18 q19 q20 q21 q22 q23 q24 q25 q26 q27 : String} {g1 g2 g3 g4 g5 g6 g7 g8 g9 g10 g11 g12 g13 g14 g15 g16 g17 g18 g19 g20 g21 g22 g23 g24 g25 g26 g27 : Array Edge}
    {at_ at2 : Array TypeId} {c : Code} {nul : Option Int} {sch : Sch}
    (hRT : RTKeep RT) (hRM : RTMono RT) (hk : KOK N lo t ((s, .int .i64 0) :: (bp, .int .i64 0) :: K)) (hD : Dims N nt lo t) (hD' : Dims N nt lo' t')
    (heO : Enters P F) (hO : OkC P F) (heC : Enters P F2) (hC : CompleteC P F2 gE E) (hT : ElT P T e esz sch) (hT2 : ElT P T2 e esz sch) (hI : P.underlying I = some (.int .i32)) (hFA : FieldAt P T' k off) (hU : OneCell P U) (hesz : 0 < esz) (htop : top sch ≤ esz)
    (hd1 : t ≤ t1 ∧ t1 + 1 < nt ∧ t2 < nt ∧ rs < nt ∧ bp < lo ∧ t ≤ t3 ∧ t3 + 1 < nt ∧ t ≤ t4 ∧ t4 + 1 < nt ∧ t ≤ t5 ∧ t5 + 2 < nt ∧ t ≤ t6 ∧ t6 + 2 < nt ∧ t ≤ t7 ∧ t7 + 1 < nt ∧ t ≤ t8 ∧ t8 < nt ∧ t ≤ t9 ∧ t9 + 3 < nt)
    (hd2 : lo ≤ u ∧ u < N ∧ lo ≤ l ∧ l < N ∧ lo ≤ i ∧ i < N ∧ lo ≤ v ∧ v < N ∧ u < lo' ∧ l < lo' ∧ i < lo' ∧ lo ≤ lo' ∧ t ≤ t' ∧ u ≠ i ∧ l ≠ i ∧ u ≠ l) (hB : B ≠ B')
    (hEl : RdEl RT P N nt gE E ver flex K lo' t' u i bp rs c esz sch)
    :
    RdTail RT P N nt gE E ver flex K lo t s bp rs u l (((Code.region r1 #[⟨some t1, .call { callee := .value (.func F), args := #[.tmp bp], argTypes := at_ }, y1, q1, g1, none⟩, ⟨some (t1 + 1), .unOp .not UN (.tmp t1), y2, q2, g2, none⟩] false).seq
      (.cond (.tmp (t1 + 1)) ((Code.region r2 #[⟨some t2, .call { callee := .value (.func F2), args := #[.tmp bp], argTypes := at2 }, y3, q3, g3, none⟩, ⟨some rs, .assign (.tmp t2), y4, q4, g4, none⟩] false).seq .ret) .skip)).seq
    ((Code.region r3 #[⟨some t3, .move (.tmp u), y5, q5, g5, none⟩, ⟨some (t3 + 1), .slice T2 (.tmp t3) none (some (.const (.int .i64 0))) none, y6, q6, g6, none⟩, ⟨some u, .assign (.tmp (t3 + 1)), y7, q7, g7, none⟩] false).seq
    (((Code.region r4 #[⟨some t4, .move (.tmp l), y8, q8, g8, none⟩, ⟨some (t4 + 1), .binOp .gtr U1 (.tmp t4) (.const (.int .i32 0)) U2, y9, q9, g9, none⟩] false).seq
      (.cond (.tmp (t4 + 1)) (Code.region r5 #[⟨some t5, .move (.tmp u), y10, q10, g10, none⟩, ⟨some (t5 + 1), .move (.tmp l), y11, q11, g11, none⟩,
        ⟨some (t5 + 2), .call { callee := .builtin .append, args := #[.tmp t5, .tmp (t5 + 1)], argTypes := #[T, I] }, y12, q12, g12, none⟩, ⟨some u, .assign (.tmp (t5 + 2)), y13, q13, g13, none⟩] false) .skip)).seq
    (((Code.region r6 #[⟨some i, .assign (.const (.int .i32 0)), y14, q14, g14, none⟩] false).seq (.block B (.loop
      (((Code.region r7 #[⟨some t6, .move (.tmp i), y15, q15, g15, none⟩, ⟨some (t6 + 1), .move (.tmp l), y16, q16, g16, none⟩, ⟨some (t6 + 2), .binOp .lss U3 (.tmp t6) (.tmp (t6 + 1)) U4, y17, q17, g17, none⟩] false).seq (.cond (.tmp (t6 + 2)) .skip (.exit B))).seq
        ((Code.block B' c).seq (.region r8 #[⟨some t7, .move (.tmp i), y18, q18, g18, none⟩, ⟨some (t7 + 1), .binOp .add U5 (.tmp t7) (.const (.int .i32 1)) U6, y19, q19, g19, none⟩, ⟨some i, .assign (.tmp (t7 + 1)), y20, q20, g20, none⟩] false)))))).seq
    ((Code.region r9 #[⟨some t8, .move (.tmp u), y21, q21, g21, none⟩, ⟨some v, .assign (.tmp t8), y22, q22, g22, none⟩] false).seq
      (.region r10 #[⟨some t9, .move (.tmp s), y23, q23, g23, none⟩, ⟨some (t9 + 1), .move (.tmp v), y24, q24, g24, none⟩, ⟨some (t9 + 2), .nilCheck (.tmp t9), y25, q25, g25, none⟩, ⟨some (t9 + 3), .fieldAddr T' (.tmp (t9 + 2)) k, y26, q26, g26, none⟩,
        ⟨none, .store U (.tmp (t9 + 3)) (.tmp (t9 + 1)), y27, q27, g27, none⟩] false)))))) off nul esz sch :=
  fun O rb b o Tb a w cs st Q ad n g1 g2 g3 g4 g5 g6 g7 g8 g9 g10 => rd_tail hRT hRM hk hD hD' heO hO heC hC hT hT2 hI hFA hU hesz htop hd1 hd2 hB hEl O rb b o Tb a w cs st Q ad n g1 g2 g3 g4 g5 g6 g7 g8 (fun _ => .inr trivial) g9 g10
end
end Go.Proofs.YtellhjpdpaeieaaDoor
