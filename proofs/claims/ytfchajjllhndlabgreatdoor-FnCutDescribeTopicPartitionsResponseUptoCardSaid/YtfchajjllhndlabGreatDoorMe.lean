/- Shared texts of these proofs, laid together by merge.py: Rr, Tga, Tgb, Tgc, Tgd, Tge, Shelg, Tgf, Kt, Leaf, Rs. -/
import Derived.Test.YtfchajjllhndlabGreatDoorMd
import Derived.Test.YtfchajjllhndlabGreatDoorMc
import Derived.Maps.OwnSet
import Derived.Maps.RangeWalk
import Derived.WalkSpells
import Derived.Shelf.GgSortFunc.Tiny
import Derived.Shelf.GgSortFunc.Whole
import Derived.Test.YtfchajjllhndlabGreatDoorProg
import Derived.Deep.QuietTactic
import Derived.Lib.SortBridge
import Derived.Sort.LotA
import Derived.Test.YtfchajjllhndlabGreatDoorMa
set_option linter.unusedVariables false
/- The reader's functions as readers of kinds; a list behind its count; sixteen octets. -/
namespace Go.Proofs.YtfchajjllhndlabGreatDoor
open Go Go.RowKit
set_option linter.unusedVariables false

theorem RdC.map {α β : Type} {P : Program} {f : Nat} {p : Pr α} {g : α → β} {V : List Nat → World → Value → α → Prop} {D D' : Value → Prop} {V' : List Nat → World → Value → β → Prop} (h : RdC P f p V D) (hV : ∀ O w v x bs r, p bs = some (x, r) → V O w v x → V' O w v (g x)) (hD : ∀ v, D v → D' v) :
    RdC P f (p.bind fun x => .pure (g x)) V' D' := by
  intro O rb w st hO hlt hr
  refine (h O rb w st hO hlt hr).mono ?_
  rintro en w' ⟨v, rfl, h1, h2, h3, h4⟩
  have e : st.bind (p.bind fun x => .pure (g x)) = (st.bind p).map fun q => (g q.1, q.2) := by
    rw [bind_st]
    cases st.bind p <;> rfl
  refine ⟨v, rfl, ?_, h2, fun hn => hD _ (h3 ?_), fun x r hx => ?_⟩
  · rw [e]
    cases hq : st.bind p with
    | none => rw [hq] at h1; exact h1
    | some q => rw [hq] at h1; exact h1
  · rw [e] at hn
    cases hq : st.bind p with
    | none => rfl
    | some q => rw [hq] at hn; cases hn
  · rw [e] at hx
    cases hq : st.bind p with
    | none => rw [hq] at hx; cases hx
    | some q =>
      rw [hq] at hx
      simp only [Option.map_some, Option.some.injEq, Prod.mk.injEq] at hx
      obtain ⟨rfl, rfl⟩ := hx
      cases st with
      | none => cases hq
      | some bs => exact hV _ _ _ q.1 bs q.2 hq (h4 q.1 q.2 hq)
theorem LeafRd.int {P : Program} {ver : Int} {flex : Bool} {f k : Nat} {m : Int} {lf : Leaf} {ik : IntKind} (hm : 0 < m) (h : RdC P f (rdInt k m) (fun _ _ v n => v = .int ik n) (fun v => v = .int ik 0)) (he : rdLeaf ver flex lf = (rdInt k m).bind fun n => .pure (.int n))
    (hL : ∀ O w (n : Int), -m ≤ n → n < m → LV O w flex (.int ik n) lf (.int n)) : LeafRd P ver flex f lf := by
  unfold LeafRd
  rw [he]
  refine h.map (fun O w v n bs r hp hv => ?_) (fun v hv => ?_)
  · subst hv
    obtain ⟨h1, h2, -⟩ := out_int hm hp
    exact hL O w n h1 h2
  · subst hv
    exact ⟨rfl, rfl⟩
theorem leafInt8 {ver : Int} {flex : Bool} : LeafRd Tryz.prog ver flex 224 .i8 := LeafRd.int (k := 1) (m := 128) (ik := .i8) (by decide) rInt8 rfl fun O w n h1 h2 => ⟨rfl, h1, by omega⟩
theorem leafInt16 {ver : Int} {flex : Bool} : LeafRd Tryz.prog ver flex 205 .i16 := LeafRd.int (k := 2) (m := 32768) (ik := .i16) (by decide) rInt16 rfl fun O w n h1 h2 => ⟨rfl, h1, by omega⟩
theorem leafInt32 {ver : Int} {flex : Bool} : LeafRd Tryz.prog ver flex 204 .i32 := LeafRd.int (k := 4) (m := 2147483648) (ik := .i32) (by decide) rInt32 rfl fun O w n h1 h2 => ⟨rfl, h1, by omega⟩
theorem leafInt64 {ver : Int} {flex : Bool} : LeafRd Tryz.prog ver flex 242 .i64 := LeafRd.int (k := 8) (m := 9223372036854775808) (ik := .i64) (by decide) rInt64 rfl fun O w n h1 h2 => rfl
theorem out_nat2 {n : Nat} {bs r : List UInt8} (h : rdNat 2 bs = some (n, r)) : n ≤ 65535 := by
  obtain ⟨l, r', h1, h2⟩ := bind_some h
  cases h2
  unfold rdTake at h1
  split at h1
  · cases h1
    match bs with
    | [] => simp [beNat]
    | [a] => have := a.toNat_lt; simp [beNat]; omega
    | a :: b :: t => have := a.toNat_lt; have := b.toNat_lt; simp [beNat]; omega
  · cases h1
theorem leafUint16 {ver : Int} {flex : Bool} : LeafRd Tryz.prog ver flex 234 .u16 := by
  refine rUint16.map (V' := fun O w v g => LV O w flex v .u16 g) (D' := One) (g := fun n : Nat => GV.int n) (fun O w v n bs r hp hv => ?_) (fun v hv => ?_)
  · subst hv
    have := out_nat2 hp
    exact ⟨rfl, by omega, by omega⟩
  · subst hv
    exact ⟨rfl, rfl⟩
theorem leafBool {ver : Int} {flex : Bool} : LeafRd Tryz.prog ver flex 230 .bool := by
  refine rBool.map (V' := fun O w v g => LV O w flex v .bool g) (D' := One) (g := fun n : Nat => GV.bool (decide (n ≠ 0))) (fun O w v n bs r hp hv => ?_) (fun v hv => ?_)
  · exact hv
  · subst hv
    exact ⟨rfl, rfl⟩
theorem leafString {ver : Int} : LeafRd Tryz.prog ver false 228 .str := fun O rb w st hO hlt hr => (rString O rb w st hO hlt hr).mono fun en w' ⟨v, h1, h2, h3, h4, h5⟩ => ⟨v, h1, h2, h3, fun hn => by
  have h := h4 hn
  subst h; exact ⟨rfl, rfl⟩, h5⟩
theorem leafCompactString {ver : Int} : LeafRd Tryz.prog ver true 227 .str := fun O rb w st hO hlt hr => (rCompactString O rb w st hO hlt hr).mono fun en w' ⟨v, h1, h2, h3, h4, h5⟩ => ⟨v, h1, h2, h3, fun hn => by
  have h := h4 hn
  subst h; exact ⟨rfl, rfl⟩, h5⟩
theorem leafNullableString {ver : Int} : LeafRd Tryz.prog ver false 223 .nstr := fun O rb w st hO hlt hr => (rNullableString O rb w st hO hlt hr).mono fun en w' ⟨v, h1, h2, h3, h4, h5⟩ => ⟨v, h1, h2, h3, fun hn => by
  have h := h4 hn
  first | (subst h; exact ⟨rfl, rfl⟩) | (obtain ⟨a, rfl⟩ := h; exact ⟨rfl, rfl⟩), h5⟩
theorem leafFromNullableString {ver m : Int} (hm : m ≤ ver) : LeafRd Tryz.prog ver false 223 (.nstrFrom m) := fun O rb w st hO hlt hr => by
  have e : rdLeaf ver false (.nstrFrom m) = rdLeaf ver false .nstr := by
    simp only [rdLeaf]
    rw [if_neg (by omega)]
  rw [e]
  exact (leafNullableString (ver := ver) O rb w st hO hlt hr).mono fun en w' ⟨v, h1, h2, h3, h4, h5⟩ => ⟨v, h1, h2, h3, h4, fun x r hx => by
    have h := h5 x r hx
    cases x <;> exact h⟩
theorem leafCompactNullableString {ver : Int} : LeafRd Tryz.prog ver true 221 .nstr := fun O rb w st hO hlt hr => (rCompactNullableString O rb w st hO hlt hr).mono fun en w' ⟨v, h1, h2, h3, h4, h5⟩ => ⟨v, h1, h2, h3, fun hn => by
  have h := h4 hn
  first | (subst h; exact ⟨rfl, rfl⟩) | (obtain ⟨a, rfl⟩ := h; exact ⟨rfl, rfl⟩), h5⟩
theorem leafFromCompactNullableString {ver m : Int} (hm : m ≤ ver) : LeafRd Tryz.prog ver true 221 (.nstrFrom m) := fun O rb w st hO hlt hr => by
  have e : rdLeaf ver true (.nstrFrom m) = rdLeaf ver true .nstr := by
    simp only [rdLeaf]
    rw [if_neg (by omega)]
  rw [e]
  exact (leafCompactNullableString (ver := ver) O rb w st hO hlt hr).mono fun en w' ⟨v, h1, h2, h3, h4, h5⟩ => ⟨v, h1, h2, h3, h4, fun x r hx => by
    have h := h5 x r hx
    cases x <;> exact h⟩
section
variable {RT : RTags} {P : Program} {N nt gE : Nat} {E : Value} {K : Slots} {lo t : Nat} {ver : Int} {flex : Bool}
/-- Behind the count. -/
theorem rdTail_mk {s bp rs u l i v t1 t2 t3 t4 t5 t6 t7 t8 t9 F F2 T T2 I e T' k U off esz lo' t' B B' r1 r2 r3 r4 r5 r6 r7 r8 r9 r10 UN U1 U2 U3 U4 U5 U6 : Nat}
    {y1 y2 y3 y4 y5 y6 y7 y8 y9 y10 y11 y12 y13 y14 y15 y16 y17 y18 y19 y20 y21 y22 y23 y24 y25 y26 y27 : Nat} {q1 q2 q3 q4 q5 q6 q7 q8 q9 q10 q11 q12 q13 q14 q15 q16 q17 q18 q19 q20 q21 q22 q23 q24 q25 q26 q27 : String} {g1 g2 g3 g4 g5 g6 g7 g8 g9 g10 g11 g12 g13 g14 g15 g16 g17 g18 g19 g20 g21 g22 g23 g24 g25 g26 g27 : Array Edge}
    {at_ at2 : Array TypeId} {c : Code} {nul : Option Int} {sch : Sch}
    (hRT : RTKeep RT) (hRM : RTMono RT) (hk : KOK N lo t ((s, .int .i64 0) :: (bp, .int .i64 0) :: K)) (hD : Dims N nt lo t) (hD' : Dims N nt lo' t')
    (heO : Enters P F) (hO : OkC P F) (heC : Enters P F2) (hC : CompleteC P F2 gE E) (hT : ElT P T e esz sch) (hT2 : ElT P T2 e esz sch) (hI : P.underlying I = some (.int .i32)) (hFA : FieldAt P T' k off) (hU : OneCell P U) (hesz : 0 < esz) (htop : top sch ≤ esz)
    (hd1 : t ≤ t1 ∧ t1 + 1 < nt ∧ t2 < nt ∧ rs < nt ∧ bp < lo ∧ t ≤ t3 ∧ t3 + 1 < nt ∧ t ≤ t4 ∧ t4 + 1 < nt ∧ t ≤ t5 ∧ t5 + 2 < nt ∧ t ≤ t6 ∧ t6 + 2 < nt ∧ t ≤ t7 ∧ t7 + 1 < nt ∧ t ≤ t8 ∧ t8 < nt ∧ t ≤ t9 ∧ t9 + 3 < nt)
    (hd2 : lo ≤ u ∧ u < N ∧ lo ≤ l ∧ l < N ∧ lo ≤ i ∧ i < N ∧ lo ≤ v ∧ v < N ∧ u < lo' ∧ l < lo' ∧ i < lo' ∧ lo ≤ lo' ∧ t ≤ t' ∧ u ≠ i ∧ l ≠ i ∧ u ≠ l) (hB : B ≠ B')
    (hEl : RdEl RT P N nt gE E ver flex K lo' t' u i bp rs c esz sch)
    :
    RdTail RT P N nt gE E ver flex K lo t s bp rs u l (((Code.region r1 #[⟨some t1, .call { callee := .value (.func F), args := #[.tmp bp], argTypes := at_ }, y1, q1, g1, none⟩, ⟨some (t1 + 1), .unOp .not UN (.tmp t1), y2, q2, g2, none⟩] false).seq
      (.cond (.tmp (t1 + 1)) ((Code.region r2 #[⟨some t2, .call { callee := .value (.func F2), args := #[.tmp bp], argTypes := at2 }, y3, q3, g3, none⟩, ⟨some rs, .assign (.tmp t2), y4, q4, g4, none⟩] false).seq .ret) .skip)).seq
    ((Code.region r3 #[⟨some t3, .move (.tmp u), y5, q5, g5, none⟩, ⟨some (t3 + 1), .slice T2 (.tmp t3) none (some (.const (.int .i64 0))) none, y6, q6, g6, none⟩, ⟨some u, .assign (.tmp (t3 + 1)), y7, q7, g7, none⟩] false).seq
    (((Code.region r4 #[⟨some t4, .move (.tmp l), y8, q8, g8, none⟩, ⟨some (t4 + 1), .binOp .gtr U1 (.tmp t4) (.const (.int .i32 0)) U2, y9, q9, g9, none⟩] false).seq
      (.cond (.tmp (t4 + 1)) (Code.region r5 #[⟨some t5, .move (.tmp u), y10, q10, g10, none⟩, ⟨some (t5 + 1), .move (.tmp l), y11, q11, g11, none⟩,
        ⟨some (t5 + 2), .call { callee := .builtin .append, args := #[.tmp t5, .tmp (t5 + 1)], argTypes := #[T, I] }, y12, q12, g12, none⟩, ⟨some u, .assign (.tmp (t5 + 2)), y13, q13, g13, none⟩] false) .skip)).seq
    (((Code.region r6 #[⟨some i, .assign (.const (.int .i32 0)), y14, q14, g14, none⟩] false).seq (.block B (.loop
      (((Code.region r7 #[⟨some t6, .move (.tmp i), y15, q15, g15, none⟩, ⟨some (t6 + 1), .move (.tmp l), y16, q16, g16, none⟩, ⟨some (t6 + 2), .binOp .lss U3 (.tmp t6) (.tmp (t6 + 1)) U4, y17, q17, g17, none⟩] false).seq (.cond (.tmp (t6 + 2)) .skip (.exit B))).seq
        ((Code.block B' c).seq (.region r8 #[⟨some t7, .move (.tmp i), y18, q18, g18, none⟩, ⟨some (t7 + 1), .binOp .add U5 (.tmp t7) (.const (.int .i32 1)) U6, y19, q19, g19, none⟩, ⟨some i, .assign (.tmp (t7 + 1)), y20, q20, g20, none⟩] false)))))).seq
    ((Code.region r9 #[⟨some t8, .move (.tmp u), y21, q21, g21, none⟩, ⟨some v, .assign (.tmp t8), y22, q22, g22, none⟩] false).seq
      (.region r10 #[⟨some t9, .move (.tmp s), y23, q23, g23, none⟩, ⟨some (t9 + 1), .move (.tmp v), y24, q24, g24, none⟩, ⟨some (t9 + 2), .nilCheck (.tmp t9), y25, q25, g25, none⟩, ⟨some (t9 + 3), .fieldAddr T' (.tmp (t9 + 2)) k, y26, q26, g26, none⟩,
        ⟨none, .store U (.tmp (t9 + 3)) (.tmp (t9 + 1)), y27, q27, g27, none⟩] false)))))) off nul esz sch :=
  fun O rb b o Tb a w cs st Q ad n g1 g2 g3 g4 g5 g6 g7 g8 g9 g10 => rd_tail hRT hRM hk hD hD' heO hO heC hC hT hT2 hI hFA hU hesz htop hd1 hd2 hB hEl O rb b o Tb a w cs st Q ad n g1 g2 g3 g4 g5 g6 g7 g8 (fun _ => .inr trivial) g9 g10
end
end Go.Proofs.YtfchajjllhndlabGreatDoor

/- Unknown tags: the map in memory, what it says; Set. -/
namespace Go.Proofs.YtfchajjllhndlabGreatDoor
open Go Go.RowKit Go.Maps
set_option linter.unusedVariables false

abbrev VD := DataW Value
/-- What a value of the map reads as: itself. -/
def R0 : Value → Option (VD × List MemPlace) := fun v => some (.held v, [])
def kl32 (k : Nat) : Lit := .int .u32 k
theorem kl32_wf {k : Nat} (h : k ≤ 4294967295) : (kl32 k).wf = true := by
  unfold kl32 Lit.wf
  simp [IntKind.min, IntKind.max, IntKind.bits, IntKind.signed]
  omega
theorem kl32_inj {j k : Nat} : kl32 j = kl32 k ↔ j = k := by
  unfold kl32
  simp
  omega
theorem kl32_key (k : Nat) : WideAt.IsKeyLit (kl32 k) := trivial
theorem tagKeyed : Keyed Tryz.prog 77 := int_keyed Tryz.underlying77
/-- The map that lies in a field: none, or a block. -/
def MapAt (w : World) (m : Option Nat) (n : Nat) (D : VD) : Prop := match m with
  | none => D = .map []
  | some g => w.ownsMap Tryz.prog 77 R0 g n D
theorem MapAt.isMap {w : World} {m : Option Nat} {n : Nat} {D : VD} (h : MapAt w m n D) : Tidy D := by
  cases m with
  | none => cases h; exact tidy_empty
  | some g => exact World.ownsMap.tidy h tagKeyed
/-- What the map says, as a list of tags. -/
structure View (O : List Nat) (w : World) (D : VD) (l : List (Nat × List UInt8)) : Prop where
  sorted : l.Pairwise fun p q => p.1 < q.1
  small : ∀ p, p ∈ l → p.1 ≤ 4294967295
  size : Maps.size D = l.length
  there : ∀ k bs, (k, bs) ∈ l → Maps.has D (kl32 k) = true ∧ ∃ v, (∀ z, D.atKey (kl32 k) z = .held v) ∧ RB O w v bs
  only : ∀ kl, Maps.has D kl = true → ∃ k bs, kl = kl32 k ∧ (k, bs) ∈ l
theorem View.keeps {O : List Nat} {w w' : World} {D : VD} {l : List (Nat × List UInt8)} (h : View O w D l) (hk : Keeps O w w') : View O w' D l :=
  ⟨h.sorted, h.small, h.size, fun k bs hm => by
    obtain ⟨h1, v, h2, h3⟩ := h.there k bs hm
    exact ⟨h1, v, h2, h3.keeps hk⟩, h.only⟩
theorem View.mono {O O' : List Nat} {w : World} {D : VD} {l : List (Nat × List UInt8)} (h : View O w D l) (hO : ∀ k, k ∈ O' → k ∈ O) : View O' w D l :=
  ⟨h.sorted, h.small, h.size, fun k bs hm => by
    obtain ⟨h1, v, h2, h3⟩ := h.there k bs hm
    exact ⟨h1, v, h2, h3.mono hO⟩, h.only⟩
theorem View.nil (O : List Nat) (w : World) : View O w (.map []) [] :=
  ⟨.nil, by simp, rfl, by simp, fun kl h => by simp [Maps.has] at h⟩
theorem mem_tagIns (k : Nat) (v : List UInt8) : ∀ (l : List (Nat × List UInt8)), l.Pairwise (fun p q => p.1 < q.1) → ∀ (p : Nat × List UInt8), p ∈ tagIns k v l ↔ p = (k, v) ∨ (p ∈ l ∧ p.1 ≠ k)
  | [], _, p => by simp [tagIns]
  | (j, u) :: r, h, p => by
    obtain ⟨h1, h2⟩ := List.pairwise_cons.1 h
    unfold tagIns
    split
    · rename_i hlt
      simp only [List.mem_cons]
      constructor
      · rintro (h | h | h)
        · exact .inl h
        · subst h; exact .inr ⟨.inl rfl, by simp only; omega⟩
        · have := h1 p h; exact .inr ⟨.inr h, by simp only at this ⊢; omega⟩
      · rintro (h | ⟨h, -⟩)
        · exact .inl h
        · exact .inr h
    · split
      · rename_i hn he
        subst he
        simp only [List.mem_cons]
        constructor
        · rintro (h | h)
          · exact .inl h
          · have := h1 p h; exact .inr ⟨.inr h, by simp only at this; omega⟩
        · rintro (h | ⟨h | h, hne⟩)
          · exact .inl h
          · subst h; exact absurd rfl hne
          · exact .inr h
      · rename_i hn he
        simp only [List.mem_cons, mem_tagIns k v r h2 p]
        constructor
        · rintro (h | h | ⟨h, hne⟩)
          · subst h; exact .inr ⟨.inl rfl, fun e => he e.symm⟩
          · exact .inl h
          · exact .inr ⟨.inr h, hne⟩
        · rintro (h | ⟨h | h, hne⟩)
          · exact .inr (.inl h)
          · exact .inl h
          · exact .inr (.inr ⟨h, hne⟩)
theorem sorted_tagIns (k : Nat) (v : List UInt8) : ∀ (l : List (Nat × List UInt8)), l.Pairwise (fun p q => p.1 < q.1) → (tagIns k v l).Pairwise fun p q => p.1 < q.1
  | [], _ => by simp [tagIns]
  | (j, u) :: r, h => by
    obtain ⟨h1, h2⟩ := List.pairwise_cons.1 h
    unfold tagIns
    split
    · rename_i hlt
      refine List.pairwise_cons.2 ⟨fun q hq => ?_, h⟩
      rcases List.mem_cons.1 hq with rfl | hq
      · exact hlt
      · exact Nat.lt_trans hlt (h1 q hq)
    · split
      · rename_i hn he
        subst he
        exact List.pairwise_cons.2 ⟨fun q hq => h1 q hq, h2⟩
      · rename_i hn he
        refine List.pairwise_cons.2 ⟨fun q hq => ?_, sorted_tagIns k v r h2⟩
        rcases (mem_tagIns k v r h2 q).1 hq with rfl | ⟨hq, -⟩
        · simp only; omega
        · exact h1 q hq
theorem length_tagIns (k : Nat) (v : List UInt8) : ∀ (l : List (Nat × List UInt8)), l.Pairwise (fun p q => p.1 < q.1) → (tagIns k v l).length = if l.any (fun p => p.1 == k) then l.length else l.length + 1
  | [], _ => by simp [tagIns]
  | (j, u) :: r, h => by
    obtain ⟨h1, h2⟩ := List.pairwise_cons.1 h
    unfold tagIns
    split
    · rename_i hlt
      rw [if_neg]
      · rfl
      · simp only [List.any_cons, Bool.or_eq_true, beq_iff_eq, List.any_eq_true, not_or, not_exists, not_and]
        refine ⟨by omega, fun q hq e => ?_⟩
        have := h1 q hq
        simp only at this
        omega
    · split
      · rename_i hn he
        subst he
        simp
      · rename_i hn he
        have e : ((j, u) :: r).any (fun p => p.1 == k) = r.any (fun p => p.1 == k) := by
          have : (j == k) = false := by simp; omega
          rw [List.any_cons, this, Bool.false_or]
        rw [e, List.length_cons, List.length_cons, length_tagIns k v r h2]
        split <;> rfl
theorem View.put {O : List Nat} {w : World} {D : VD} {l : List (Nat × List UInt8)} (h : View O w D l) (hT : Tidy D) {k : Nat} {bs : List UInt8} {v : Value} (hk : k ≤ 4294967295) (hv : RB O w v bs) : View O w (D.put (kl32 k) (.held v)) (tagIns k bs l) := by
  have hany : l.any (fun p => p.1 == k) = Maps.has D (kl32 k) := by
    rw [Bool.eq_iff_iff]
    simp only [List.any_eq_true, beq_iff_eq]
    constructor
    · rintro ⟨⟨k', bs'⟩, hm, rfl⟩
      exact (h.there _ _ hm).1
    · intro hh
      obtain ⟨k', bs', e, hm⟩ := h.only _ hh
      exact ⟨_, hm, (kl32_inj.1 e).symm⟩
  refine ⟨sorted_tagIns k bs l h.sorted, fun p hp => ?_, ?_, fun k' bs' hm => ?_, fun kl hh => ?_⟩
  · rcases (mem_tagIns k bs l h.sorted p).1 hp with rfl | ⟨hp, -⟩
    · exact hk
    · exact h.small p hp
  · rw [Maps.size_put hT, length_tagIns k bs l h.sorted, hany, h.size]
  · rcases (mem_tagIns k bs l h.sorted _).1 hm with e | ⟨hm, hne⟩
    · cases e
      exact ⟨has_put_same hT.isMap (kl32_key k) _, v, fun z => atKey_put_same hT.isMap (kl32_key k) _ z, hv⟩
    · have hne' : kl32 k' ≠ kl32 k := fun e => hne (kl32_inj.1 e)
      obtain ⟨h1, v', h2, h3⟩ := h.there k' bs' hm
      exact ⟨by rw [has_put_other hne']; exact h1, v', fun z => by rw [atKey_put_other hne']; exact h2 z, h3⟩
  · by_cases he : kl = kl32 k
    · exact ⟨k, bs, he, (mem_tagIns k bs l h.sorted _).2 (.inl rfl)⟩
    · rw [has_put_other he] at hh
      obtain ⟨k', bs', rfl, hm⟩ := h.only kl hh
      exact ⟨k', bs', rfl, (mem_tagIns k bs l h.sorted _).2 (.inr ⟨hm, fun e => he (congrArg kl32 e)⟩)⟩
/-- How tags lie in memory. -/
def TagMem : RTags := fun O w b o l => ∃ m n D, w.cell? ⟨b, o, none⟩ = some (.map m) ∧ MapAt w m n D ∧ n ≤ 4294967296 ∧ View O w D l ∧ (∀ g, m = some g → g ∉ O) ∧ l.length ≤ 4294967295 ∧ ∀ t, t ∈ l → t.2.length ≤ 4294967295
theorem ownsMap_block {P : Program} {k : TypeId} {R : Value → Option (VD × List MemPlace)} {w w' : World} {g n : Nat} {D : VD} (h : w.ownsMap P k R g n D) (hb : w'.heap[g]? = w.heap[g]?) : w'.ownsMap P k R g n D := by
  obtain ⟨es, clock, h1, h2⟩ := h
  exact ⟨es, clock, hb.trans h1, h2⟩
theorem MapAt.keeps {O : List Nat} {w w' : World} {m : Option Nat} {n : Nat} {D : VD} (h : MapAt w m n D) (hk : Keeps O w w') (hO : ∀ g, m = some g → g ∉ O) : MapAt w' m n D := by
  cases m with
  | none => exact h
  | some g => exact ownsMap_block h (hk.block g (World.ownsMap.lt h) (hO g rfl))
theorem tags_keep : RTKeep TagMem := by
  rintro O w w' b o l ⟨m, n, D, h1, h2, h3, h4, h5, h6⟩ hk hc
  exact ⟨m, n, D, hc.trans h1, h2.keeps hk h5, h3, h4.keeps hk, h5, h6⟩
theorem tags_mono : RTMono TagMem := by
  rintro O O' w b o l ⟨m, n, D, h1, h2, h3, h4, h5, h6⟩ hO
  exact ⟨m, n, D, h1, h2, h3, h4.mono hO, fun g hg hgO => h5 g hg (hO g hgO), h6⟩
theorem tags_zero : ∀ O w b o, w.cell? ⟨b, o, none⟩ = some (.map none) → TagMem O w b o [] := fun O w b o h => ⟨none, 0, .map [], h, rfl, by omega, View.nil O w, fun g hg => (by cases hg), by simp, by simp⟩

set_option maxHeartbeats 1000000 in
theorem tagsSet (w : World) (p T : Nat) (m : Option Nat) (n : Nat) (D : VD) (k : Nat) (v : Value) (hB : Blk w p [.map m] T) (hm : MapAt w m n D) (hn : n < maxLen) (hk : k ≤ 4294967295) (hp : ∀ g, m = some g → g ≠ p) :
    Calls Tryz.prog 272 #[.pointer (some ⟨p, 0, none⟩), .int .u32 (k : Nat), v] w fun e w' => e = .returned (.tuple #[]) ∧ ∃ g, Blk w' p [.map (some g)] T ∧ w'.ownsMap Tryz.prog 77 R0 g (n + 1) (D.put (kl32 k) (.held v)) ∧ ((m = some g ∧ Keeps [g] w w') ∨ (m = none ∧ g = w.heap.size ∧ Keeps [p] w w')) := by
  have hkey := keyOf_int_mk Tryz.underlying77 (kl32_wf hk)
  have m0 := hB.cell_some (i := 0) rfl
  have f0 := hB.frozen 0
  have qT : ∀ (w : World) (r : Option Nat), (binOp .eql 82 (.map r) (.map none)).run Tryz.prog w = .ok (.bool r.isNone) w := fun w r => run_eql_map_nil w _ _ _ r Tryz.underlying82
  cases m with
  | some g =>
    have hown : w.ownsMap Tryz.prog 77 R0 g n D := hm
    have hgp := hp g rfl
    clear hm hp
    have HB := Lib.hid hB
    clear hB
    go_enter Tryz.func272, Tryz.ntmps272
    go_wp2_with (first
      | (at_mapUpdate; refine wpList_mapUpdate_own _ rfl _ _ _ 82 rfl 77 22 tagKeyed Tryz.underlying82 _ g n D rfl hown hn _ _ _ rfl rfl hkey _ [] rfl ?_; intro w1 hown1 hgrow1)
      | go_in)
    go_end0
    have hk1 : Keeps [g] w w1 := (Keeps.refl [g] w).grown hgrow1 (fun j hj => .inl (by cases hj; simp))
    exact ⟨rfl, g, HB.out.keeps hk1 (by simpa using fun e => hgp e.symm), hown1, rfl, hk1⟩
  | none =>
    cases hm
    have hlt := hB.lt
    have hsz : (w.setCell ⟨p, 0, none⟩ (.map (some w.heap.size))).heap.size = w.heap.size := by simp [World.setCell]
    have hown : ((w.setCell ⟨p, 0, none⟩ (.map (some w.heap.size))).alloc (.map #[] 0)).ownsMap Tryz.prog 77 R0 w.heap.size 0 (.map []) := by
      have h := World.ownsMap_made (H := Value) (w.setCell ⟨p, 0, none⟩ (.map (some w.heap.size))) Tryz.prog 77 R0
      rwa [hsz] at h
    have h0 : 0 < maxLen := by unfold maxLen; omega
    have hmm := @run_makeMap Tryz.prog
    have HB := Lib.hid hB
    have HO := Lib.hid (And.intro h0 hown)
    clear hB hp h0 hown hsz
    go_enter Tryz.func272, Tryz.ntmps272
    go_wp2_with (first
      | (at_mapUpdate; refine wpList_mapUpdate_own _ rfl _ _ _ 82 rfl 77 22 tagKeyed Tryz.underlying82 _ w.heap.size 0 _ rfl HO.out.2 HO.out.1 _ _ _ rfl rfl hkey _ [] rfl ?_; intro w1 hown1 hgrow1)
      | go_in)
    go_end0
    have hB1 : Blk ((w.setCell ⟨p, 0, none⟩ (.map (some w.heap.size))).alloc (.map #[] 0)) p [.map (some w.heap.size)] T := (HB.out.set 0 _).keeps ((Keeps.refl [] _).alloc _) (by simp)
    have hk0 : Keeps [p] w ((w.setCell ⟨p, 0, none⟩ (.map (some w.heap.size))).alloc (.map #[] 0)) := ((Keeps.refl [p] w).setCell (by simp) _).alloc _
    have hk1 : Keeps [w.heap.size] ((w.setCell ⟨p, 0, none⟩ (.map (some w.heap.size))).alloc (.map #[] 0)) w1 := (Keeps.refl _ _).grown hgrow1 (fun j hj => .inl (by cases hj; simp))
    exact ⟨rfl, w.heap.size, hB1.keeps hk1 (by simp; omega), hown1.mono (by omega), rfl, ((hk0.mono (O' := [w.heap.size, p]) (by simp)).trans (hk1.mono (by simp))).close (Nat.le_refl _)⟩
end Go.Proofs.YtfchajjllhndlabGreatDoor

/- Unknown tags: reading them. -/
namespace Go.Proofs.YtfchajjllhndlabGreatDoor
open Go Go.RowKit Go.Maps
set_option linter.unusedVariables false

theorem uvVal {O : List Nat} {rb : Nat} {w : World} {st : Option (List UInt8)} {e : Ending} {w' : World} (h : RdPost rdUv (fun _ _ v n => v = .int .u32 (n : Nat)) (fun v => v = .int .u32 0) O rb w st e w') :
    ∃ k : Nat, e = .returned (.int .u32 (k : Nat)) ∧ k ≤ 4294967295 ∧ Rdr O w' rb ((st.bind rdUv).map (·.2)) ∧ Keeps [rb] w w' ∧ ∀ n r, st.bind rdUv = some (n, r) → n = k := by
  obtain ⟨v, rfl, h1, h2, h3, h4⟩ := h
  cases hx : st.bind rdUv with
  | none => exact ⟨0, by rw [h3 hx]; rfl, by omega, by rw [hx] at h1; exact h1, h2, fun n r h => by cases h⟩
  | some q =>
    refine ⟨q.1, by rw [h4 q.1 q.2 hx], ?_, by rw [hx] at h1; exact h1, h2, fun n r h => by cases h; rfl⟩
    cases st with
    | none => cases hx
    | some bs => exact (out_uv (r := q.2) hx).1
def tgO (p2 p3 : Nat) (m : Option Nat) (O : List Nat) : List Nat := match m with
  | none => p3 :: p2 :: O
  | some g => g :: p3 :: p2 :: O
theorem mem_tgO {p2 p3 : Nat} {m : Option Nat} {O : List Nat} {k : Nat} : k ∈ tgO p2 p3 m O ↔ m = some k ∨ k = p3 ∨ k = p2 ∨ k ∈ O := by
  cases m with
  | none => simp [tgO]
  | some g => simp [tgO, eq_comm]
/-- The loop, behind some rounds. -/
structure TgInv (O : List Nat) (rb p2 p3 T : Nat) (w0 : World) (st : Option (List UInt8)) (N j : Nat) (m : Option Nat) (D : VD) (v : Value) (wr : World) : Prop where
  le : j ≤ N
  val : v = .int .u32 ((N - j : Nat) : Int)
  b3 : Blk wr p3 [.map m] T
  b2 : Blk wr p2 [.map none] T
  map : MapAt wr m j D
  new : ∀ g, m = some g → w0.heap.size ≤ g ∧ g ≠ p2 ∧ g ≠ p3 ∧ g < wr.heap.size
  rdr : Rdr (tgO p2 p3 m O) wr rb ((st.bind (rdMany rdTag1 j)).map (·.2))
  keeps : Keeps [rb] w0 wr
  view : ∀ l r, st.bind (rdMany rdTag1 j) = some (l, r) → View (tgO p2 p3 m O) wr D (tagSort l)
theorem tagSort_snoc (l : List (Nat × List UInt8)) (k : Nat) (v : List UInt8) : tagSort (l ++ [(k, v)]) = tagIns k v (tagSort l) := by
  unfold tagSort
  rw [List.foldl_append]
  rfl
theorem many_st {α : Type} (p : Pr α) (j : Nat) (st : Option (List UInt8)) : st.bind (rdMany p (j + 1)) = (st.bind (rdMany p j)).bind fun q => (p q.2).bind fun r => some (q.1 ++ [r.1], r.2) := by
  cases st with
  | none => rfl
  | some bs =>
    change rdMany p (j + 1) bs = _
    rw [many_snoc]
    change _ = (rdMany p j bs).bind _
    cases h : rdMany p j bs with
    | none => rw [bind_none h]; rfl
    | some q =>
      rw [bind_eq (v := q.1) (r := q.2) h]
      change _ = (p q.2).bind _
      cases h2 : p q.2 with
      | none => rw [bind_none h2]; rfl
      | some r => rw [bind_eq (v := r.1) (r := r.2) h2]; rfl
theorem tag1_st (bs : List UInt8) : rdTag1 bs = (rdUv bs).bind fun a => (rdUv a.2).bind fun b => (rdSpan (b.1 : Nat) b.2).bind fun c => some ((a.1, c.1), c.2) := by
  unfold rdTag1
  cases h1 : rdUv bs with
  | none => rw [bind_none h1]; rfl
  | some a =>
    rw [bind_eq (v := a.1) (r := a.2) h1]
    simp only [Option.bind_some]
    cases h2 : rdUv a.2 with
    | none => rw [bind_none h2]; rfl
    | some b =>
      rw [bind_eq (v := b.1) (r := b.2) h2]
      simp only [Option.bind_some]
      have e : rdSpan (b.1 : Nat) = rdTake b.1 := by
        unfold rdSpan
        rw [if_neg (by omega), Int.toNat_natCast]
      rw [e]
      cases h3 : rdTake b.1 b.2 with
      | none => rw [bind_none h3]; rfl
      | some c => rw [bind_eq (v := c.1) (r := c.2) h3]; rfl
/-- One round, of what the calls say. -/
theorem tg_step {O : List Nat} {rb p2 p3 T : Nat} {w0 : World} {st : Option (List UInt8)} {N j : Nat} {m : Option Nat} {D : VD} {wr w1 w2 w3 w4 : World} {v v3 : Value} {k1 k2 g : Nat} (h : TgInv O rb p2 p3 T w0 st N j m D v wr) (hj : j < N)
    (hrb : rb ∈ O) (hO2 : p2 ∉ O) (hO3 : p3 ∉ O) (hp : p2 ≠ p3) (hw : w0.heap.size ≤ p2) (hw3 : w0.heap.size ≤ p3) (hr : rb < w0.heap.size)
    (h1 : Rdr (tgO p2 p3 m O) w1 rb ((((st.bind (rdMany rdTag1 j)).map (·.2)).bind rdUv).map (·.2)) ∧ Keeps [rb] wr w1 ∧ ∀ n r, ((st.bind (rdMany rdTag1 j)).map (·.2)).bind rdUv = some (n, r) → n = k1) (hk1 : k1 ≤ 4294967295)
    (h2 : Rdr (tgO p2 p3 m O) w2 rb ((((((st.bind (rdMany rdTag1 j)).map (·.2)).bind rdUv).map (·.2)).bind rdUv).map (·.2)) ∧ Keeps [rb] w1 w2 ∧ ∀ n r, ((((st.bind (rdMany rdTag1 j)).map (·.2)).bind rdUv).map (·.2)).bind rdUv = some (n, r) → n = k2)
    (h3 : Rdr (tgO p2 p3 m O) w3 rb ((((((((st.bind (rdMany rdTag1 j)).map (·.2)).bind rdUv).map (·.2)).bind rdUv).map (·.2)).bind (rdSpan (k2 : Nat))).map (·.2)) ∧ Keeps [rb] w2 w3 ∧ ∀ s r, ((((((st.bind (rdMany rdTag1 j)).map (·.2)).bind rdUv).map (·.2)).bind rdUv).map (·.2)).bind (rdSpan (k2 : Nat)) = some (s, r) → RB (tgO p2 p3 m O) w3 v3 s)
    (h4 : Blk w4 p3 [.map (some g)] T ∧ w4.ownsMap Tryz.prog 77 R0 g (j + 1) (D.put (kl32 k1) (.held v3)) ∧ ((m = some g ∧ Keeps [g] w3 w4) ∨ (m = none ∧ g = w3.heap.size ∧ Keeps [p3] w3 w4))) :
    TgInv O rb p2 p3 T w0 st N (j + 1) (some g) (D.put (kl32 k1) (.held v3)) (.int .u32 ((N - (j + 1) : Nat) : Int)) w4 := by
  obtain ⟨r1, a1, g1⟩ := h1
  obtain ⟨r2, a2, g2⟩ := h2
  obtain ⟨r3, a3, g3⟩ := h3
  obtain ⟨b4, o4, f4⟩ := h4
  have kr3 : Keeps [rb] wr w3 := (a1.trans a2).trans a3
  have hrb3 : rb ≠ p3 := by rintro rfl; omega
  have hrb2 : rb ≠ p2 := by rintro rfl; omega
  have b33 : Blk w3 p3 [.map m] T := h.b3.keeps kr3 (by simpa using fun e => hrb3 e.symm)
  have b23 : Blk w3 p2 [.map none] T := h.b2.keeps kr3 (by simpa using fun e => hrb2 e.symm)
  have hs3 := kr3.size
  have hk0 := h.keeps.size
  -- what turned in the store
  have hgn : w0.heap.size ≤ g ∧ g ≠ p2 ∧ g ≠ p3 := by
    rcases f4 with ⟨hm, -⟩ | ⟨-, hg, -⟩
    · have := h.new g hm; exact ⟨this.1, this.2.1, this.2.2.1⟩
    · have := b33.lt; have := b23.lt; exact ⟨by omega, by omega, by omega⟩
  have hk4 : Keeps (tgO p2 p3 m O) w3 w4 := by
    rcases f4 with ⟨hm, hk⟩ | ⟨hm, -, hk⟩
    · exact hk.mono fun k hk => by rw [List.mem_singleton] at hk; subst hk; exact mem_tgO.2 (.inl hm)
    · exact hk.mono fun k hk => by rw [List.mem_singleton] at hk; subst hk; exact mem_tgO.2 (.inr (.inl rfl))
  have hk4' : ∀ b, b ≠ g → b ≠ p3 → b < w3.heap.size → w4.heap[b]? = w3.heap[b]? := by
    intro b h1 h2 h3
    rcases f4 with ⟨hm, hk⟩ | ⟨hm, -, hk⟩
    · exact hk.block b h3 (by simpa using h1)
    · exact hk.block b h3 (by simpa using h2)
  have hkq : Keeps [g, p3] w3 w4 := by
    rcases f4 with ⟨hm, hk⟩ | ⟨hm, -, hk⟩
    · exact hk.mono (by simp)
    · exact hk.mono (by simp)
  have hgrb : rb ≠ g := by rintro rfl; omega
  -- the reader and what was read, with the new block open
  have hopen : ∀ {s : Option (List UInt8)}, Rdr (tgO p2 p3 m O) w3 rb s → Rdr (tgO p2 p3 (some g) O) w4 rb s := by
    intro s hs
    have hs4 : Rdr (tgO p2 p3 (some g) O) w3 rb s := by
      rcases f4 with ⟨hm, -⟩ | ⟨hm, hg, -⟩
      · rw [← hm]; exact hs
      · subst hm; exact hs.open (by omega)
    exact hs4.other hkq (by simp; exact ⟨hgrb, hrb3⟩) (by intro k hk; simp at hk; rcases hk with rfl | rfl <;> exact mem_tgO.2 (by simp))
  have hRBo : ∀ {x : Value} {s : List UInt8}, RB (tgO p2 p3 m O) w3 x s → RB (tgO p2 p3 (some g) O) w4 x s := by
    intro x s hs
    have hs4 : RB (tgO p2 p3 (some g) O) w3 x s := by
      rcases f4 with ⟨hm, -⟩ | ⟨hm, hg, -⟩
      · rw [← hm]; exact hs
      · subst hm; exact hs.openNew (by omega)
    exact hs4.keeps (hkq.mono (by intro k hk; simp at hk; rcases hk with rfl | rfl <;> exact mem_tgO.2 (by simp)))
  have hst : st.bind (rdMany rdTag1 (j + 1)) = (((((st.bind (rdMany rdTag1 j)).map (·.2)).bind rdUv).map (·.2)).bind rdUv).bind fun b => (rdSpan (b.1 : Nat) b.2).bind fun c => some ((((st.bind (rdMany rdTag1 j)).map (·.1)).getD []) ++ [(k1, c.1)], c.2) := by
    rw [many_st]
    cases hq : st.bind (rdMany rdTag1 j) with
    | none => rfl
    | some q =>
      rw [hq] at g1
      simp only [Option.bind_some, Option.map_some, Option.getD_some] at g1 ⊢
      rw [tag1_st]
      cases hu : rdUv q.2 with
      | none => rfl
      | some a =>
        have := g1 a.1 a.2 hu
        subst this
        simp only [Option.bind_some, Option.map_some]
        cases hu2 : rdUv a.2 with
        | none => rfl
        | some b =>
          simp only [Option.bind_some]
          cases rdSpan (b.1 : Nat) b.2 <;> rfl
  refine ⟨by omega, rfl, b4, ?_, o4, fun g' hg' => ?_, ?_, ?_, fun l r hl => ?_⟩
  · exact (hk4' p2 hgn.2.1.symm hp b23.lt).trans b23
  · cases hg'
    exact ⟨hgn.1, hgn.2.1, hgn.2.2, World.ownsMap.lt o4⟩
  · have e : ((st.bind (rdMany rdTag1 (j + 1))).map (·.2)) = (((((((st.bind (rdMany rdTag1 j)).map (·.2)).bind rdUv).map (·.2)).bind rdUv).map (·.2)).bind (rdSpan (k2 : Nat))).map (·.2) := by
      rw [hst]
      cases hx : ((((st.bind (rdMany rdTag1 j)).map (·.2)).bind rdUv).map (·.2)).bind rdUv with
      | none => rfl
      | some b =>
        have := g2 b.1 b.2 hx
        subst this
        simp only [Option.bind_some, Option.map_some]
        cases rdSpan (b.1 : Nat) b.2 <;> rfl
    rw [e]
    exact hopen r3
  · have k03 : Keeps [rb] w0 w3 := h.keeps.trans kr3
    have k04 : Keeps [g, p3, rb] w0 w4 := (k03.mono (by simp)).trans (hkq.mono (by simp))
    exact (k04.close hgn.1).close hw3
  · rw [hst] at hl
    cases hx : ((((st.bind (rdMany rdTag1 j)).map (·.2)).bind rdUv).map (·.2)).bind rdUv with
    | none => rw [hx] at hl; cases hl
    | some b =>
      rw [hx] at hl g3
      have := g2 b.1 b.2 hx
      subst this
      simp only [Option.bind_some, Option.map_some] at hl g3
      cases hy : rdSpan (b.1 : Nat) b.2 with
      | none => rw [hy] at hl; cases hl
      | some c =>
        rw [hy] at hl g3
        simp only [Option.bind_some, Option.some.injEq, Prod.mk.injEq] at hl
        obtain ⟨rfl, rfl⟩ := hl
        cases hq : st.bind (rdMany rdTag1 j) with
        | none => rw [hq] at hx; cases hx
        | some q =>
          have hv := h.view q.1 q.2 hq
          simp only [Option.map_some, Option.getD_some]
          rw [tagSort_snoc]
          have hT : Tidy D := h.map.isMap
          have hV4 : View (tgO p2 p3 (some g) O) w4 D (tagSort q.1) := by
            have hv3 := hv.keeps (kr3.mono (fun k hk => by rw [List.mem_singleton] at hk; subst hk; exact mem_tgO.2 (.inr (.inr (.inr hrb)))))
            exact ⟨hv3.sorted, hv3.small, hv3.size, fun k bs hm => by
              obtain ⟨u1, u2, u3, u4⟩ := hv3.there k bs hm
              exact ⟨u1, u2, u3, hRBo u4⟩, hv3.only⟩
          exact hV4.put hT hk1 (hRBo (g3 c.1 c.2 rfl))
end Go.Proofs.YtfchajjllhndlabGreatDoor

/- Unknown tags: internalReadTags. -/
namespace Go.Proofs.YtfchajjllhndlabGreatDoor
open Go Go.RowKit Go.Maps
set_option linter.unusedVariables false

def numOf : Value → Nat
  | .int _ n => n.toNat
  | _ => 0
theorem tg_start {O : List Nat} {rb T : Nat} {w w1 : World} {st : Option (List UInt8)} {N : Nat} (hlt : ∀ k, k ∈ O → k < w.heap.size) (hrb : rb ∈ O)
    (hb2 : Blk w1 w.heap.size [.map none] T) (hb3 : Blk w1 (w.heap.size + 1) [.map none] T) (hr : Rdr ((w.heap.size + 1) :: w.heap.size :: O) w1 rb st) (hk : Keeps [rb] w w1) :
    TgInv O rb w.heap.size (w.heap.size + 1) T w st N 0 none (.map []) (.int .u32 (N : Nat)) w1 := by
  have e : st.bind (rdMany rdTag1 0) = st.map fun bs => ([], bs) := by cases st <;> rfl
  refine ⟨by omega, by simp, hb3, hb2, rfl, fun g hg => (by cases hg), ?_, hk, fun l r hl => ?_⟩
  · rw [e, Option.map_map]
    have : (Option.map ((fun x : List (Nat × List UInt8) × List UInt8 => x.2) ∘ fun bs => ([], bs)) st) = st := by cases st <;> rfl
    rw [this]
    exact hr
  · rw [e] at hl
    cases st with
    | none => cases hl
    | some bs =>
      simp only [Option.map_some, Option.some.injEq, Prod.mk.injEq] at hl
      obtain ⟨rfl, rfl⟩ := hl
      exact View.nil _ _
def TagPost (O : List Nat) (rb : Nat) (w : World) (st : Option (List UInt8)) (e : Ending) (w' : World) : Prop :=
  ∃ m, e = .returned (.agg #[.map m]) ∧ Rdr O w' rb ((st.bind rdTagsRaw).map (·.2)) ∧ Keeps [rb] w w' ∧ ∀ l r, st.bind rdTagsRaw = some (l, r) → ∀ (w2 : World) (b o : Nat), Keeps O w' w2 → w2.cell? ⟨b, o, none⟩ = some (.map m) → TagMem O w2 b o (tagSort l)
theorem tg_end {O : List Nat} {rb T N j : Nat} {w wr : World} {st : Option (List UInt8)} {m : Option Nat} {D : VD} {v : Value} (h : TgInv O rb w.heap.size (w.heap.size + 1) T w ((st.bind rdUv).map (·.2)) N j m D v wr) (hj : j = N) (hrb : rb ∈ O) (hlt : ∀ k, k ∈ O → k < w.heap.size)
    (hg : ∀ n r, st.bind rdUv = some (n, r) → n = N) (hN : N ≤ 4294967296) (hM : ∀ bs, st = some bs → bs.length ≤ lim) : TagPost O rb w st (.returned (.agg #[.map m])) (wr.setCell ⟨w.heap.size, 0, none⟩ (.map m)) := by
  subst hj
  have hrbl := hlt rb hrb
  have hk : Keeps [w.heap.size] wr (wr.setCell ⟨w.heap.size, 0, none⟩ (.map m)) := (Keeps.refl _ _).setCell (by simp) _
  have hO2 : w.heap.size ∉ O := fun h => Nat.lt_irrefl _ (hlt _ h)
  have hkO : Keeps (tgO w.heap.size (w.heap.size + 1) m O) wr (wr.setCell ⟨w.heap.size, 0, none⟩ (.map m)) := hk.mono fun k hk => by rw [List.mem_singleton] at hk; subst hk; exact mem_tgO.2 (.inr (.inr (.inl rfl)))
  have e : st.bind rdTagsRaw = ((st.bind rdUv).map (·.2)).bind (rdMany rdTag1 j) := by
    unfold rdTagsRaw
    rw [bind_st]
    cases hx : st.bind rdUv with
    | none => rfl
    | some q =>
      have := hg q.1 q.2 hx
      subst this
      rfl
  refine ⟨m, rfl, ?_, ?_, fun l r hl w2 b o hk2 hc => ⟨m, j, D, hc, ?_, hN, ?_, fun g hg' hgO => ?_, ?_⟩⟩
  · rw [e]
    exact (h.rdr.other hk (by simp; omega) (by intro k hk'; rw [List.mem_singleton] at hk'; subst hk'; exact mem_tgO.2 (.inr (.inr (.inl rfl))))).mono fun k hk => mem_tgO.2 (.inr (.inr (.inr hk)))
  · exact ((h.keeps.mono (O' := [w.heap.size, rb]) (by simp)).trans (hk.mono (by simp))).close (Nat.le_refl _)
  · have h1 : MapAt (wr.setCell ⟨w.heap.size, 0, none⟩ (.map m)) m j D := h.map.keeps hk (fun g hg => by have := (h.new g hg).2.1; simpa using this)
    exact h1.keeps hk2 (fun g hg hgO => by have h1 := (h.new g hg).1; have := hlt g hgO; omega)
  · rw [e] at hl
    exact ((h.view l r hl).keeps hkO |>.mono fun k hk => mem_tgO.2 (.inr (.inr (.inr hk)))).keeps hk2
  · have h1 := (h.new g hg').1
    have := hlt g hgO
    omega
  · cases st with
    | none => cases hl
    | some bs =>
      obtain ⟨a1, a2, a3, a4, a5, a6⟩ := out_tagsRaw (hM bs rfl) hl
      exact ⟨by omega, fun t ht => (a5 t ht).2⟩
theorem results_cell1 {fn : Func} {t U : Nat} {P : Program} {w : World} {ad : Addr} {x : Value} {tmps : Array Value} (h : fn.results = #[.cell t U]) (ht : tmps.getD t undef = .pointer (some ad)) (hU : ManyCells P U 1) (hc : w.cell? ad = some x) :
    (results fn tmps).run P w = .ok (.agg #[x]) w := by
  have h1 := run_load_many (P := P) hU (w := w) (ad := ad) (l := [x]) rfl (fun j v hj => by
    cases j with
    | zero => cases hj; rw [show ad.add 0 = ad by cases ad; simp [Addr.add]]; exact hc
    | succ j => simp at hj)
  have h2 : (loadVar U ad).run P w = .ok (.agg #[x]) w := by simpa [Instr.loadAt, Instr.sureAddr] using h1
  have h3 : tmps[t]?.getD undef = .pointer (some ad) := by simpa using ht
  simp [results, h, h3, asAddr, h2]
theorem mcTags : ManyCells Tryz.prog 84 1 := ⟨fun w => Tryz.isAgg84 w, ⟨Tryz.t84, _, by kernel_rfl, rfl, rfl, rfl⟩⟩
theorem cell_after {O : List Nat} {rb T N j : Nat} {w wr : World} {st : Option (List UInt8)} {m : Option Nat} {D : VD} {v : Value} (h : TgInv O rb w.heap.size (w.heap.size + 1) T w st N j m D v wr) : (wr.setCell ⟨w.heap.size, 0, none⟩ (.map m)).cell? ⟨w.heap.size, 0, none⟩ = some (.map m) := (h.b2.set 0 (.map m)).cell_some (i := 0) rfl
set_option maxHeartbeats 4000000 in
theorem tagsRead0 (O : List Nat) (rb : Nat) (w : World) (st : Option (List UInt8)) (hO : rb ∈ O) (hlt : ∀ k, k ∈ O → k < w.heap.size) (hr : Rdr O w rb st) : Calls Tryz.prog 214 #[.pointer (some ⟨rb, 0, none⟩)] w (TagPost O rb w st) := by
  have hb2 : Blk ((w.alloc (.cells #[.map none] 84)).alloc (.cells #[.map none] 84)) w.heap.size [.map none] 84 := by
    have h0 : Blk (w.alloc (.cells #[.map none] 84)) w.heap.size [.map none] 84 := heap_alloc_new w _
    exact h0.keeps ((Keeps.refl [] _).alloc _) (by simp)
  have hb3 : Blk ((w.alloc (.cells #[.map none] 84)).alloc (.cells #[.map none] 84)) (w.heap.size + 1) [.map none] 84 := by
    have h0 : Blk ((w.alloc (.cells #[.map none] 84)).alloc (.cells #[.map none] 84)) (w.alloc (.cells #[.map none] 84)).heap.size [.map none] 84 := heap_alloc_new _ _
    simpa using h0
  have hk2 : Keeps [] w ((w.alloc (.cells #[.map none] 84)).alloc (.cells #[.map none] 84)) := ((Keeps.refl [] w).alloc _).alloc _
  have hr2 : Rdr ((w.heap.size + 1) :: w.heap.size :: O) ((w.alloc (.cells #[.map none] 84)).alloc (.cells #[.map none] 84)) rb st :=
    ((hr.open (Nat.le_refl _)).open (Nat.le_succ _)).other hk2 (by simp) (by simp)
  have hlt2 : ∀ k, k ∈ (w.heap.size + 1) :: w.heap.size :: O → k < ((w.alloc (.cells #[.map none] 84)).alloc (.cells #[.map none] 84)).heap.size := by
    intro k hk
    simp only [List.mem_cons] at hk
    rcases hk with rfl | rfl | hk
    · exact hb3.lt
    · exact hb2.lt
    · exact Nat.lt_of_lt_of_le (hlt k hk) hk2.size
  have C := Lib.hid (rUvarint _ rb _ st (List.mem_cons_of_mem _ (List.mem_cons_of_mem _ hO)) hlt2 hr2)
  have hrbl := hlt rb hO
  have HM := Lib.hid (show ∀ bs, st = some bs → bs.length ≤ lim from fun bs h => by subst h; obtain ⟨sv, h1, h2, h3⟩ := hr; exact h3)
  have HR := Lib.hid (And.intro hb2 (And.intro hb3 (And.intro (hk2.mono (O' := [rb]) (by simp)) (And.intro hlt (And.intro hO hrbl)))))
  clear hr hlt hO hb2 hb3 hr2 hlt2 hk2 hrbl
  go_enter Tryz.func214, Tryz.ntmps214
  go_wp2_with fail
  refine C.out.mono ?_
  intro e w1 hp
  obtain ⟨N, rfl, hN, h1, hk1, hg1⟩ := uvVal hp
  have hst := tg_start (st := (st.bind rdUv).map (·.2)) (N := N) HR.out.2.2.2.1 HR.out.2.2.2.2.1 (HR.out.1.keeps hk1 (by have := HR.out.2.2.2.2.2; simp; omega)) (HR.out.2.1.keeps hk1 (by have := HR.out.2.2.2.2.2; simp; omega)) h1 (HR.out.2.2.1.trans hk1)
  have HS := Lib.hid hst
  have HG := Lib.hid (And.intro hg1 hN)
  clear hp C h1 hk1 hg1 hst hN
  go_wp2
  go_loopw [4] (fun v wr => ∃ j m D, TgInv O rb w.heap.size (w.heap.size + 1) 84 w ((st.bind rdUv).map (·.2)) N j m D v wr) (fun v _ => numOf v)
  case atStart => exact ⟨0, none, .map [], HS.out⟩
  case round =>
    obtain ⟨j, m, D, hI⟩ := hrel
    obtain rfl := hI.val
    have hltO : ∀ k, k ∈ tgO w.heap.size (w.heap.size + 1) m O → k < wr.heap.size := by
      intro k hk
      rcases mem_tgO.1 hk with h | rfl | rfl | h
      · exact (hI.new k h).2.2.2
      · exact hI.b3.lt
      · exact hI.b2.lt
      · exact Nat.lt_of_lt_of_le (HR.out.2.2.2.1 k h) hI.keeps.size
    have hrbO : rb ∈ tgO w.heap.size (w.heap.size + 1) m O := mem_tgO.2 (.inr (.inr (.inr HR.out.2.2.2.2.1)))
    have HI := Lib.hid (And.intro hI (And.intro hltO hrbO))
    by_cases hj : j < N
    · have C1 := Lib.hid (rUvarint _ rb wr _ hrbO hltO hI.rdr)
      clear hI hltO hrbO
      have HJ := Lib.hid hj
      have hq : ∃ q : Nat, N - j = q ∧ 0 < q ∧ q ≤ 4294967295 := ⟨N - j, rfl, by omega, by have := HG.out.2; omega⟩
      obtain ⟨q, hq, hq0, hq1⟩ := hq
      rw [hq]
      have HQ := Lib.hid hq
      have hz0 : (0 : Int) < (q : Nat) := by omega
      have hz1 : ((q : Nat) : Int) ≤ 4294967295 := by omega
      clear hq hj hq0 hq1
      go_wp2_with fail
      refine C1.out.mono ?_
      intro e w1 hp
      obtain ⟨k1, rfl, hk1, r1, a1, g1⟩ := uvVal hp
      have C2 := Lib.hid (rUvarint _ rb w1 _ HI.out.2.2 (hlt_on HI.out.2.1 a1) r1)
      have H1 := Lib.hid (And.intro hk1 (And.intro r1 (And.intro a1 g1)))
      clear hp C1 hk1 r1 a1 g1
      go_wp2_with fail
      refine C2.out.mono ?_
      intro e w2 hp
      obtain ⟨k2, rfl, hk2, r2, a2, g2⟩ := uvVal hp
      have C3 := Lib.hid (rSpan _ rb w2 _ (k2 : Nat) HI.out.2.2 (hlt_on (hlt_on HI.out.2.1 H1.out.2.2.1) a2) r2)
      have hz2 : (0 : Int) ≤ (k2 : Nat) := by omega
      have hz3 : ((k2 : Nat) : Int) ≤ 4294967295 := by omega
      have H2 := Lib.hid (And.intro r2 (And.intro a2 g2))
      clear hp C2 hk2 r2 a2 g2
      go_wp2_with fail
      refine C3.out.mono ?_
      rintro e w3 ⟨v3, rfl, r3, a3, -, g3⟩
      have a13 := (H1.out.2.2.1.trans H2.out.2.1).trans a3
      have hrbw := HR.out.2.2.2.2.2
      have C4 := Lib.hid (tagsSet w3 (w.heap.size + 1) 84 m j D k1 v3 (HI.out.1.b3.keeps a13 (by simp; omega)) (HI.out.1.map.keeps a13 (fun g hg => by have := (HI.out.1.new g hg).1; simp; omega)) (by have := HJ.out; have := HG.out.2; unfold maxLen; omega) H1.out.1 (fun g hg => (HI.out.1.new g hg).2.2.1))
      have H3 := Lib.hid (And.intro r3 (And.intro a3 g3))
      clear C3 r3 a3 g3 a13 hrbw
      go_wp2_with fail
      refine C4.out.mono ?_
      rintro e w4 ⟨rfl, g, c1, c2, c3⟩
      have hstep := tg_step HI.out.1 HJ.out HR.out.2.2.2.2.1 (fun h => Nat.lt_irrefl _ (HR.out.2.2.2.1 _ h)) (fun h => by have := HR.out.2.2.2.1 _ h; omega) (by omega) (Nat.le_refl _) (Nat.le_succ _) HR.out.2.2.2.2.2 H1.out.2 H1.out.1 H2.out H3.out ⟨c1, c2, c3⟩
      have HS4 := Lib.hid hstep
      clear C4 c1 c2 c3 hstep
      go_wp2
      go_roundw
      case rel =>
        refine ⟨j + 1, some g, D.put (kl32 k1) (.held v3), ?_⟩
        have h := HS4.out
        have e1 : ((N - (j + 1) : Nat) : Int) = (q : Int) - 1 := by have := HQ.out; have := HJ.out; omega
        rw [e1] at h
        exact h
      case measure =>
        simp only [numOf]
        omega
    · have hN : N - j = 0 := by omega
      rw [hN]
      have HN := Lib.hid (show j = N by have := hI.le; omega)
      have m3 := hI.b3.cell_some (i := 0) rfl
      have f3 := hI.b3.frozen 0
      have m2 := hI.b2.cell_some (i := 0) rfl
      have f2 := hI.b2.frozen 0
      clear hI hltO hrbO hj hN
      go_wp2
      refine bodyPost_ret (results_cell1 (ad := ⟨w.heap.size, 0, none⟩) (x := .map m) rfl rfl mcTags (cell_after HI.out.1)) rfl ?_
      exact tg_end HI.out.1 HN.out HR.out.2.2.2.2.1 HR.out.2.2.2.1 HG.out.1 (by have := HG.out.2; omega) HM.out
theorem tagsRead : TagsRd TagMem Tryz.prog 214 := fun O rb w st hO hlt hr => tagsRead0 O rb w st hO hlt hr
end Go.Proofs.YtfchajjllhndlabGreatDoor

/- Unknown tags: how many there are; one tag, written. -/
namespace Go.Proofs.YtfchajjllhndlabGreatDoor
open Go Go.RowKit Go.Maps
set_option linter.unusedVariables false

/-- 'append(dst, a, b, ..)' of bytes: the literal has just been laid. -/
theorem wpl_append_bytesG {P : Program} {w : World} {ops : Array Oper} {rest : List Oper} {o : Oper} {a : Act} {Q : Exit → Act → World → Prop} {t : TypeId} (T : BytesT P t 5) (hgd : o.guard = none) (s x : Operand)
    (ho : o.op = .call { callee := .builtin .append, args := #[s, x], argTypes := #[t, t] }) (base : Nat) (bs : List UInt8) (hown : Own base w (a.eval s) bs) (hb : base ≤ w.heap.size)
    (cs : List Value) (bs' : List UInt8) (hcs : cs = bs'.map byteV) (hx : a.eval x = .slice (some ⟨w.heap.size, 0, none⟩) cs.length cs.length) (hl : bs.length + bs'.length ≤ lim)
    (h : ∀ v' w', Own base w' v' (bs ++ bs') → w.grownBy w' (a.eval s).ownBlock → wpList P ops Q rest (a.put o.dst v') w') : wpList P ops Q (o :: rest) a (w.alloc (.cells cs.toArray 5)) := by
  obtain ⟨i, hi, hz, hs, hby⟩ := T.info
  subst hcs
  rw [List.length_map] at hx
  refine wpl_append_src hgd s x t t ho base 5 i (.int .u8 0) 1 1 T.under hi hz hs hby rfl (a.eval s) bs.length (bs.map byteV) rfl (World.ownsRow.alloc hown _) _ bs'.length (bs'.map byteV) hx
    (Src.ofSlice _ T.under _ _ _ _ (by simp) ?_ ?_) (lim_max hl) (lim_room hl) (by simp; omega) ?_
  · intro j u hj
    rw [Addr.add_lit, (Blk.alloc_new w (bs'.map byteV) _).cell]
    simpa using hj
  · intro u hu
    obtain ⟨_, _, rfl⟩ := List.mem_map.1 hu
    rfl
  · intro v' w' hown' hg _
    refine h v' w' ?_ ?_
    · unfold Own
      simpa using hown'
    · exact ⟨hg.os, hg.tape, hg.output, Nat.le_trans (by simp) hg.size, fun k hk hne => (hg.block k (by simp; omega) hne).trans (Below.heap_alloc w _ k hk)⟩

/-- 'append(dst, src...)' of bytes that lie in memory (or are nil), or of a text. -/
theorem wpl_append_fromG {P : Program} {w : World} {ops : Array Oper} {rest : List Oper} {o : Oper} {a : Act} {Q : Exit → Act → World → Prop} {t tx : TypeId} (T : BytesT P t 5) (hgd : o.guard = none) (s x : Operand)
    (ho : o.op = .call { callee := .builtin .append, args := #[s, x], argTypes := #[t, tx] }) (base : Nat) (bs : List UInt8) (hown : Own base w (a.eval s) bs) (hb : base ≤ w.heap.size)
    (bs' : List UInt8) (hsrc : Src P 1 tx (a.eval x) bs'.length (bs'.map byteV) w) (hl : bs.length + bs'.length ≤ lim)
    (h : ∀ v' w', Own base w' v' (bs ++ bs') → w.grownBy w' (a.eval s).ownBlock → wpList P ops Q rest (a.put o.dst v') w') : wpList P ops Q (o :: rest) a w := by
  obtain ⟨i, hi, hz, hs, hby⟩ := T.info
  refine wpl_append_src hgd s x t tx ho base 5 i (.int .u8 0) 1 1 T.under hi hz hs hby rfl (a.eval s) bs.length (bs.map byteV) rfl hown _ bs'.length (bs'.map byteV) rfl hsrc (lim_max hl) (lim_room hl) hb ?_
  intro v' w' hown' hg _
  refine h v' w' ?_ ?_
  · unfold Own
    simpa using hown'
  · exact hg

/-- Function f appends; but for the bytes' own block nothing has turned. -/
def AppG (P : Program) (f : Nat) (arg : Value) (new : List UInt8) : Prop :=
  ∀ (base : Nat) (w : World) (v : Value) (bs : List UInt8), Own base w v bs → base ≤ w.heap.size → bs.length + new.length ≤ lim → Calls P f #[v, arg] w fun e w' => ∃ v', e = .returned v' ∧ Own base w' v' (bs ++ new) ∧ w.grownBy w' v.ownBlock
set_option maxRecDepth 100000 in
set_option maxHeartbeats 1000000 in
theorem uvG1 (n : Nat) (h0 : 0 ≤ n) (h1 : n ≤ 127) : AppG Tryz.prog 152 (.int .u32 n) (uv n) := by
  intro base w v bs hown hb hl
  have hu : ulen n = 1 := by unfold ulen; split <;> (try split) <;> (try split) <;> (try split) <;> omega
  rw [uv1 (by omega)] at hl ⊢
  go_enter Tryz.func152, Tryz.ntmps152
  go_wp2_with fail
  refine (uvarintLen w n (by omega) (by omega)).mono ?_
  rintro e w' ⟨rfl, rfl⟩
  rw [hu]
  clear hu
  go_wp2_with (at_builtin; refine halted ?_)
  refine wpl_append_bytesG bt rfl _ _ rfl base bs hown hb _ [UInt8.ofNat n] ?_ rfl hl ?_
  · simp only [List.map_cons, List.map_nil, byteV_nat (show n < 256 by omega)]
    all_goals rfl
  intro v' w' hown' hbel
  go_wp2
  go_ret
  exact ⟨_, rfl, hown', hbel⟩
set_option maxRecDepth 100000 in
set_option maxHeartbeats 1000000 in
theorem uvG2 (n : Nat) (h0 : 128 ≤ n) (h1 : n ≤ 16383) : AppG Tryz.prog 152 (.int .u32 n) (uv n) := by
  intro base w v bs hown hb hl
  have hu : ulen n = 2 := by unfold ulen; split <;> (try split) <;> (try split) <;> (try split) <;> omega
  rw [uv2 (by omega) (by omega)] at hl ⊢
  go_enter Tryz.func152, Tryz.ntmps152
  go_wp2_with fail
  refine (uvarintLen w n (by omega) (by omega)).mono ?_
  rintro e w' ⟨rfl, rfl⟩
  rw [hu]
  clear hu
  go_wp2_with (at_builtin; refine halted ?_)
  refine wpl_append_bytesG bt rfl _ _ rfl base bs hown hb _ [UInt8.ofNat (n % 128 + 128), UInt8.ofNat (n / 128)] ?_ rfl hl ?_
  · simp only [List.map_cons, List.map_nil, byteV_nat (show n % 128 + 128 < 256 by omega), byteV_nat (show n / 128 < 256 by omega)]
    rw [show ((n : Int) / 128) = ((n / 128 : Nat) : Int) by omega, seven (n) (by omega)]
  intro v' w' hown' hbel
  go_wp2
  go_ret
  exact ⟨_, rfl, hown', hbel⟩
set_option maxRecDepth 100000 in
set_option maxHeartbeats 1000000 in
theorem uvG3 (n : Nat) (h0 : 16384 ≤ n) (h1 : n ≤ 2097151) : AppG Tryz.prog 152 (.int .u32 n) (uv n) := by
  intro base w v bs hown hb hl
  have hu : ulen n = 3 := by unfold ulen; split <;> (try split) <;> (try split) <;> (try split) <;> omega
  rw [uv3 (by omega) (by omega)] at hl ⊢
  go_enter Tryz.func152, Tryz.ntmps152
  go_wp2_with fail
  refine (uvarintLen w n (by omega) (by omega)).mono ?_
  rintro e w' ⟨rfl, rfl⟩
  rw [hu]
  clear hu
  go_wp2_with (at_builtin; refine halted ?_)
  refine wpl_append_bytesG bt rfl _ _ rfl base bs hown hb _ [UInt8.ofNat (n % 128 + 128), UInt8.ofNat (n / 128 % 128 + 128), UInt8.ofNat (n / 16384)] ?_ rfl hl ?_
  · simp only [List.map_cons, List.map_nil, byteV_nat (show n % 128 + 128 < 256 by omega), byteV_nat (show n / 128 % 128 + 128 < 256 by omega), byteV_nat (show n / 16384 < 256 by omega)]
    rw [show ((n : Int) / 128) = ((n / 128 : Nat) : Int) by omega, show ((n : Int) / 16384) = ((n / 16384 : Nat) : Int) by omega, seven (n) (by omega), seven (n / 128) (by omega)]
  intro v' w' hown' hbel
  go_wp2
  go_ret
  exact ⟨_, rfl, hown', hbel⟩
set_option maxRecDepth 100000 in
set_option maxHeartbeats 1000000 in
theorem uvG4 (n : Nat) (h0 : 2097152 ≤ n) (h1 : n ≤ 268435455) : AppG Tryz.prog 152 (.int .u32 n) (uv n) := by
  intro base w v bs hown hb hl
  have hu : ulen n = 4 := by unfold ulen; split <;> (try split) <;> (try split) <;> (try split) <;> omega
  rw [uv4 (by omega) (by omega)] at hl ⊢
  go_enter Tryz.func152, Tryz.ntmps152
  go_wp2_with fail
  refine (uvarintLen w n (by omega) (by omega)).mono ?_
  rintro e w' ⟨rfl, rfl⟩
  rw [hu]
  clear hu
  go_wp2_with (at_builtin; refine halted ?_)
  refine wpl_append_bytesG bt rfl _ _ rfl base bs hown hb _ [UInt8.ofNat (n % 128 + 128), UInt8.ofNat (n / 128 % 128 + 128), UInt8.ofNat (n / 16384 % 128 + 128), UInt8.ofNat (n / 2097152)] ?_ rfl hl ?_
  · simp only [List.map_cons, List.map_nil, byteV_nat (show n % 128 + 128 < 256 by omega), byteV_nat (show n / 128 % 128 + 128 < 256 by omega), byteV_nat (show n / 16384 % 128 + 128 < 256 by omega), byteV_nat (show n / 2097152 < 256 by omega)]
    rw [show ((n : Int) / 128) = ((n / 128 : Nat) : Int) by omega, show ((n : Int) / 16384) = ((n / 16384 : Nat) : Int) by omega, show ((n : Int) / 2097152) = ((n / 2097152 : Nat) : Int) by omega, seven (n) (by omega), seven (n / 128) (by omega), seven (n / 16384) (by omega)]
  intro v' w' hown' hbel
  go_wp2
  go_ret
  exact ⟨_, rfl, hown', hbel⟩
set_option maxRecDepth 100000 in
set_option maxHeartbeats 1000000 in
theorem uvG5 (n : Nat) (h0 : 268435456 ≤ n) (h1 : n ≤ 4294967295) : AppG Tryz.prog 152 (.int .u32 n) (uv n) := by
  intro base w v bs hown hb hl
  have hu : ulen n = 5 := by unfold ulen; split <;> (try split) <;> (try split) <;> (try split) <;> omega
  rw [uv5 (by omega) (by omega)] at hl ⊢
  go_enter Tryz.func152, Tryz.ntmps152
  go_wp2_with fail
  refine (uvarintLen w n (by omega) (by omega)).mono ?_
  rintro e w' ⟨rfl, rfl⟩
  rw [hu]
  clear hu
  go_wp2_with (at_builtin; refine halted ?_)
  refine wpl_append_bytesG bt rfl _ _ rfl base bs hown hb _ [UInt8.ofNat (n % 128 + 128), UInt8.ofNat (n / 128 % 128 + 128), UInt8.ofNat (n / 16384 % 128 + 128), UInt8.ofNat (n / 2097152 % 128 + 128), UInt8.ofNat (n / 268435456)] ?_ rfl hl ?_
  · simp only [List.map_cons, List.map_nil, byteV_nat (show n % 128 + 128 < 256 by omega), byteV_nat (show n / 128 % 128 + 128 < 256 by omega), byteV_nat (show n / 16384 % 128 + 128 < 256 by omega), byteV_nat (show n / 2097152 % 128 + 128 < 256 by omega), byteV_nat (show n / 268435456 < 256 by omega)]
    rw [show ((n : Int) / 128) = ((n / 128 : Nat) : Int) by omega, show ((n : Int) / 16384) = ((n / 16384 : Nat) : Int) by omega, show ((n : Int) / 2097152) = ((n / 2097152 : Nat) : Int) by omega, show ((n : Int) / 268435456) = ((n / 268435456 : Nat) : Int) by omega, seven (n) (by omega), seven (n / 128) (by omega), seven (n / 16384) (by omega), seven (n / 2097152) (by omega)]
  intro v' w' hown' hbel
  go_wp2
  go_ret
  exact ⟨_, rfl, hown', hbel⟩
theorem uvG (n : Nat) (h : n ≤ 4294967295) : AppG Tryz.prog 152 (.int .u32 n) (uv n) := by
  by_cases h1 : n ≤ 127
  · exact uvG1 n (by omega) h1
  by_cases h2 : n ≤ 16383
  · exact uvG2 n (by omega) h2
  by_cases h3 : n ≤ 2097151
  · exact uvG3 n (by omega) h3
  by_cases h4 : n ≤ 268435455
  · exact uvG4 n (by omega) h4
  · exact uvG5 n (by omega) h

/-- What stands in a block of w that holds no octets stands in w', too. -/
structure Turn (q : Nat) (w w' : World) : Prop where
  os : w'.os = w.os
  tape : w'.tape = w.tape
  output : w'.output = w.output
  size : w.heap.size ≤ w'.heap.size
  block : ∀ b, b < w.heap.size → b ≠ q → (∀ cur fr, w.heap[b]? ≠ some (.cells cur 5 fr)) → w'.heap[b]? = w.heap[b]?
theorem Turn.refl (q : Nat) (w : World) : Turn q w w := ⟨rfl, rfl, rfl, Nat.le_refl _, fun _ _ _ _ => rfl⟩
theorem Turn.trans {q : Nat} {a b c : World} (h : Turn q a b) (k : Turn q b c) : Turn q a c :=
  ⟨k.os.trans h.os, k.tape.trans h.tape, k.output.trans h.output, Nat.le_trans h.size k.size, fun i hi hq hn => by
    have e := h.block i hi hq hn
    exact (k.block i (Nat.lt_of_lt_of_le hi h.size) hq (fun cur fr => by rw [e]; exact hn cur fr)).trans e⟩
theorem Turn.setCell {q : Nat} {a b : World} (h : Turn q a b) (i : Nat) (x : Value) : Turn q a (b.setCell ⟨q, i, none⟩ x) :=
  h.trans ⟨rfl, rfl, rfl, by simp [World.setCell], fun k _ hk _ => Below.heap_setCell _ _ _ _ (fun e => hk (by first | exact e | exact e.symm))⟩
theorem Turn.grown {q base : Nat} {w w' : World} {v : Value} {bs : List UInt8} (hown : Own base w v bs) (hg : w.grownBy w' v.ownBlock) : Turn q w w' :=
  ⟨hg.os, hg.tape, hg.output, hg.size, fun b hb _ hn => hg.block b hb (fun e => by
    rcases hown.2 with ⟨rfl, -⟩ | ⟨g, cap, cur, rfl, -, hgg, -⟩
    · cases e
    · cases e; exact hn _ _ hgg)⟩
theorem Own.below_grown {base B : Nat} {w w' : World} {v : Value} {bs : List UInt8} (hown : Own base w v bs) (hB : B ≤ base) (hb : B ≤ w.heap.size) (hg : w.grownBy w' v.ownBlock) : Below B w w' :=
  (Below.refl _ _).grown hg hb (fun k hk => by have := (hown.lt k hk).1; omega)
set_option maxHeartbeats 1000000 in
theorem tagsLen {w0 w : World} {b o : Nat} {l : List (Nat × List UInt8)} (h : TagMem [] w0 b o l) (hb : Below w0.heap.size w0 w) : Calls Tryz.prog 153 #[.pointer (some ⟨b, o, none⟩)] w fun e w' => e = .returned (.int .i64 l.length) ∧ w = w' := by
  obtain ⟨m, n, D, hc, hm, hn, hv, -, -⟩ := h
  have m0 : w.cell? ⟨b, o, none⟩ = some (.map m) := (hb.cell (p := ⟨b, o, none⟩) (World.block_lt_of_cell? w0 _ hc)).trans hc
  have hsz := hv.size
  cases m with
  | none =>
    cases hm
    have hl : l.length = 0 := by rw [← hsz]; rfl
    clear hc hn hv hsz
    rw [hl]
    go_enter Tryz.func153, Tryz.ntmps153
    go_wp2
    go_ret
    exact ⟨rfl, rfl⟩
  | some g =>
    have hown : w.ownsMap Tryz.prog 77 R0 g n D := ownsMap_block hm (hb.block g (World.ownsMap.lt hm))
    rw [← hsz]
    clear hc hn hv hsz hm
    go_enter Tryz.func153, Tryz.ntmps153
    go_wp2_with (first
      | (at_len; refine wpList_len_own _ rfl _ 82 rfl 77 22 Tryz.underlying82 _ g n D rfl hown ?_)
      | go_in)
    go_ret
    exact ⟨rfl, rfl⟩
theorem own_shape {base : Nat} {w : World} {v : Value} {bs : List UInt8} (h : Own base w v bs) : ∃ a c, v = .slice a bs.length c := by
  rcases h.2 with ⟨rfl, hn⟩ | ⟨g, cap, cur, rfl, -⟩
  · exact ⟨none, 0, by rw [hn]⟩
  · exact ⟨_, _, rfl⟩
/-- One tag, appended to the bytes in cell q. -/
def TagPut (w0 : World) (q : Nat) (bs : List UInt8) (w : World) (e : Ending) (w' : World) : Prop := e = .returned (.tuple #[]) ∧ ∃ x', Blk w' q [x'] 22 ∧ Own w0.heap.size w' x' bs ∧ Turn q w w' ∧ Below w0.heap.size w0 w'
theorem own_set {base q i T : Nat} {w : World} {v : Value} {c : List Value} {bs : List UInt8} (h : Own base w v bs) (hB : Blk w q c T) (hT : T ≠ 5) (u : Value) : Own base (w.setCell ⟨q, i, none⟩ u) v bs := by
  refine ⟨h.1, ?_⟩
  rcases h.2 with hn | ⟨g, cap, cur, rfl, h1, h2, h3⟩
  · exact .inl hn
  · refine .inr ⟨g, cap, cur, rfl, h1, ?_, h3⟩
    rw [Below.heap_setCell _ _ _ _ (fun e => ?_)]
    · exact h2
    · subst e
      unfold Blk at hB
      rw [h2] at hB
      simp at hB
      exact hT hB.2.symm
theorem blk_grown {base q T : Nat} {w w' : World} {v : Value} {c : List Value} {bs : List UInt8} (hown : Own base w v bs) (hg : w.grownBy w' v.ownBlock) (hB : Blk w q c T) (hT : T ≠ 5) : Blk w' q c T := by
  refine (hg.block q hB.lt (fun e => ?_)).trans hB
  rcases hown.2 with ⟨rfl, -⟩ | ⟨g, cap, cur, rfl, -, hgg, -⟩
  · cases e
  · cases e
    unfold Blk at hB
    rw [hgg] at hB
    simp at hB
    exact hT hB.2.symm
set_option maxHeartbeats 2000000 in
theorem tagPut {w0 w : World} {q k : Nat} {x v : Value} {bs val : List UInt8} (hB : Below w0.heap.size w0 w) (hv : RB [] w0 v val) (hq : w0.heap.size ≤ q) (hblk : Blk w q [x] 22) (hown : Own w0.heap.size w x bs) (hk : k ≤ 4294967295) (hval : val.length ≤ 4294967295) (hl : bs.length + (apTags [(k, val)]).length ≤ lim) :
    Calls Tryz.prog 218 #[.int .u32 (k : Nat), v, .pointer (some ⟨q, 0, none⟩)] w (TagPut w0 q (bs ++ apTags [(k, val)]) w) := by
  have e0 : apTags [(k, val)] = uv k ++ uv val.length ++ val := by simp [apTags]
  rw [e0] at hl ⊢
  simp only [List.length_append] at hl
  have hbs := hB.size
  obtain ⟨sad, scap, rfl, -⟩ : ∃ a cap, v = .slice a val.length cap ∧ True := by obtain ⟨a, cap, h, -⟩ := hv; exact ⟨a, cap, h, trivial⟩
  have m0 := hblk.cell_some (i := 0) rfl
  have f0 := hblk.frozen 0
  have C1 := Lib.hid (uvG k hk w0.heap.size w x bs hown hbs (by omega))
  have X0 := Lib.hid (And.intro hB (And.intro hblk (And.intro hown (And.intro hv (And.intro hbs (And.intro hl hval))))))
  clear hB hown hv hbs hl hblk hval
  have hz0 : (0 : Int) ≤ (val.length : Nat) := by omega
  have hz1 : ((val.length : Nat) : Int) ≤ 4294967295 := by have := X0.out.2.2.2.2.2.2; omega
  go_enter Tryz.func218, Tryz.ntmps218
  go_wp2_with fail
  refine C1.out.mono ?_
  rintro e w1 ⟨x1, rfl, o1, g1⟩
  obtain ⟨ya, yc, hx1⟩ := own_shape o1
  generalize (bs ++ uv k).length = yn at hx1
  subst hx1
  have b1 := blk_grown X0.out.2.2.1 g1 X0.out.2.1 (by decide)
  have m1 := b1.cell_some (i := 0) rfl
  have f1 := b1.frozen 0
  have o1' := own_set (i := 0) o1 b1 (by decide) (.slice ya yn yc)
  have b1' := b1.set 0 (.slice ya yn yc)
  have hs1 : w0.heap.size ≤ (w1.setCell ⟨q, 0, none⟩ (.slice ya yn yc)).heap.size := by have := g1.size; have := X0.out.2.2.2.2.1; simp [World.setCell]; omega
  have C2 := Lib.hid (uvG val.length (by omega) w0.heap.size _ _ (bs ++ uv k) o1' hs1 (by have := X0.out.2.2.2.2.2.1; simp only [List.length_append]; omega))
  have X1 := Lib.hid (And.intro o1 (And.intro g1 (And.intro b1 (And.intro o1' (And.intro b1' hs1)))))
  clear C1 o1 g1 b1 o1' b1' hs1 m0 f0
  go_wp2_with fail
  refine C2.out.mono ?_
  rintro e w2 ⟨x2, rfl, o2, g2⟩
  obtain ⟨za, zc, hx2⟩ := own_shape o2
  generalize (bs ++ uv k ++ uv val.length).length = zn at hx2
  subst hx2
  have b2 := blk_grown X1.out.2.2.2.1 g2 X1.out.2.2.2.2.1 (by decide)
  have m2 := b2.cell_some (i := 0) rfl
  have f2 := b2.frozen 0
  have o2' := own_set (i := 0) o2 b2 (by decide) (.slice za zn zc)
  have hs2 : w0.heap.size ≤ (w2.setCell ⟨q, 0, none⟩ (.slice za zn zc)).heap.size := by have := g2.size; have := X1.out.2.2.2.2.2; simp [World.setCell] at *; omega
  have bel1 : Below w0.heap.size w0 (w1.setCell ⟨q, 0, none⟩ (.slice ya yn yc)) := (X0.out.1.trans (Own.below_grown X0.out.2.2.1 (Nat.le_refl _) X0.out.2.2.2.2.1 X1.out.2.1)).setCell hq _
  have bel2 : Below w0.heap.size w0 (w2.setCell ⟨q, 0, none⟩ (.slice za zn zc)) := (bel1.trans (Own.below_grown X1.out.2.2.2.1 (Nat.le_refl _) X1.out.2.2.2.2.2 g2)).setCell hq _
  have hv2 : RB [] (w2.setCell ⟨q, 0, none⟩ (.slice za zn zc)) (.slice sad val.length scap) val := X0.out.2.2.2.1.keeps (Keeps.of_below bel2 (Nat.le_refl _))
  have X2 := Lib.hid (And.intro o2' (And.intro hs2 (And.intro bel2 (And.intro hv2 (And.intro b2 (And.intro g2 (b2.set 0 (.slice za zn zc))))))))
  clear C2 o2 g2 b2 o2' hs2 bel1 bel2 hv2 m1 f1
  go_wp2_with (at_builtin; refine halted ?_)
  refine wpl_append_fromG bt rfl _ _ rfl w0.heap.size (bs ++ uv k ++ uv val.length) X2.out.1 X2.out.2.1 val (Src.ofRB Tryz.underlying22 X2.out.2.2.2.1) (by have := X0.out.2.2.2.2.2.1; simp only [List.length_append]; omega) ?_
  intro x3 w3 o3 g3
  obtain ⟨ta, tc, hx3⟩ := own_shape o3
  generalize (bs ++ uv k ++ uv val.length ++ val).length = tn at hx3
  subst hx3
  have b3 := blk_grown X2.out.1 g3 X2.out.2.2.2.2.2.2 (by decide)
  have m3 := b3.cell_some (i := 0) rfl
  have f3 := b3.frozen 0
  have X3 := Lib.hid (And.intro o3 (And.intro g3 b3))
  clear o3 g3 b3 m2 f2
  go_wp2
  go_end0
  refine ⟨rfl, .slice ta tn tc, X3.out.2.2.set 0 _, ?_, ?_, ?_⟩
  · have h := own_set (i := 0) X3.out.1 X3.out.2.2 (by decide) (.slice ta tn tc)
    simpa only [List.append_assoc] using h
  · exact ((((Turn.grown X0.out.2.2.1 X1.out.2.1).setCell 0 _).trans (Turn.grown X1.out.2.2.2.1 X2.out.2.2.2.2.2.1)).setCell 0 _).trans (Turn.grown X2.out.1 X3.out.2.1) |>.setCell 0 _
  · exact (X2.out.2.2.1.trans (Own.below_grown X2.out.1 (Nat.le_refl _) X2.out.2.1 X3.out.2.1)).setCell hq _
end Go.Proofs.YtfchajjllhndlabGreatDoor

/- Unknown tags: all, written. -/
namespace Go.Proofs.YtfchajjllhndlabGreatDoor
open Go Go.RowKit Go.Maps
set_option linter.unusedVariables false

theorem u32Info : (Tryz.prog.info? 77).map (fun i => (i.zero, i.size, i.bytes)) = some (some (.int .u32 0), 1, 4) := by kernel_rfl
abbrev encK (k : Nat) : Value := .int .u32 (k : Nat)
/-- What is asked of sort.Slice. -/
def SortSpec : Prop := ∀ (w : World) (z c p : Nat) (ks : List Nat) (cur : Array Value), w.heap[z]? = some (.cells cur 77 (0, 0)) → cur.toList.take ks.length = ks.map encK → Blk w p [.slice (some ⟨z, 0, none⟩) ks.length c] 301 → ks.length < 4294967296 →
  Calls Tryz.prog 274 #[.iface 301 (.slice (some ⟨z, 0, none⟩) ks.length c), .func (.func 275) #[] #[.pointer (some ⟨p, 0, none⟩)]] w fun e w' =>
    e = .returned (.tuple #[]) ∧ ∃ (ks' : List Nat) (cur' : Array Value), ks'.Perm ks ∧ ks'.Pairwise (· ≤ ·) ∧ w'.heap[z]? = some (.cells cur' 77 (0, 0)) ∧ cur'.toList.take ks.length = ks'.map encK ∧ w.grownBy w' (some z)
def EachPost (w0 w : World) (q : Nat) (bs : List UInt8) (e : Ending) (w' : World) : Prop := e = .returned (.tuple #[]) ∧ ∃ x', Blk w' q [x'] 22 ∧ Own w0.heap.size w' x' bs ∧ Below w0.heap.size w w'
/-- The keys that were met so far. -/
def Coll (D : VD) (left : Lit → Bool) (ss : List Nat) : Prop := ss.Nodup ∧ ∀ k, k ∈ ss ↔ (Maps.has D (kl32 k) = true ∧ left (kl32 k) = false)
theorem Coll.start (D : VD) : Coll D (Maps.has D) [] := ⟨List.nodup_nil, fun x => by cases Maps.has D (kl32 x) <;> simp⟩
theorem Coll.step {D : VD} {left : Lit → Bool} {ss : List Nat} (h : Coll D left ss) {x : Nat} {y : VD} (hlk : left (kl32 x) = true) (hat : ∀ zd, D.atKey (kl32 x) zd = y) : Coll D (fun z => left z && !z.sameKey (kl32 x)) (ss ++ [x]) := by
  have hhas : Maps.has D (kl32 x) = true := has_true_of_atKey hat
  have hnew : x ∉ ss := fun hx => by have := ((h.2 x).1 hx).2; rw [hlk] at this; cases this
  refine ⟨List.nodup_append.2 ⟨h.1, by simp, fun a ha b hb => by simp at hb; subst hb; exact fun e => hnew (e ▸ ha)⟩, fun y => ?_⟩
  by_cases hy : y = x
  · subst hy
    have : (kl32 y).sameKey (kl32 y) = true := WideAt.sameKey_self (kl32_key y)
    simp [hhas, this]
  · have : (kl32 y).sameKey (kl32 x) = false := Maps.sameKey_ne fun e => hy (kl32_inj.1 e)
    simp [h.2 y, hy, this]
theorem Coll.sorted {D : VD} {left : Lit → Bool} {ss ks : List Nat} {O : List Nat} {w : World} {l : List (Nat × List UInt8)} (h : Coll D left ss) (hl : ∀ kl, left kl = false) (hv : View O w D l) (hp : ks.Perm ss) (hs : ks.Pairwise (· ≤ ·)) : ks = l.map (·.1) := by
  have hpl : ss.Perm (l.map (·.1)) := by
    refine (List.perm_ext_iff_of_nodup h.1 ?_).2 fun k => ?_
    · exact List.pairwise_map.2 (hv.sorted.imp fun {p q} hlt => by omega)
    · rw [h.2 k, hl]
      simp only [and_true, List.mem_map]
      constructor
      · intro hh
        obtain ⟨k', bs', e, hm⟩ := hv.only _ hh
        exact ⟨_, hm, (kl32_inj.1 e).symm⟩
      · rintro ⟨⟨k', bs'⟩, hm, rfl⟩
        exact (hv.there _ _ hm).1
  refine List.Perm.eq_of_pairwise (le := (· ≤ ·)) (fun a b _ _ h1 h2 => Nat.le_antisymm h1 h2) hs ?_ (hp.trans hpl)
  exact List.pairwise_map.2 (hv.sorted.imp fun {p q} hlt => by omega)
/-- The first loop, behind some rounds. -/
structure EInv (g p4 r n H : Nat) (D : VD) (L : Nat) (w wr : World) (left : Lit → Bool) (cnt : Nat) (ss : List Nat) (a : Option Addr) (c : Nat) : Prop where
  hrg : wr.ranges Tryz.prog 77 R0 g r n D left cnt
  le : ss.length + cnt ≤ L
  box : Blk wr p4 [.slice a ss.length c] 301
  row : wr.ownsRow H 77 1 (.slice a ss.length c) ss.length (ss.map encK)
  nn : a ≠ none
  coll : Coll D left ss
  below : Below H w wr
/-- The second loop. -/
structure EInv2 (q z H : Nat) (l : List (Nat × List UInt8)) (bs : List UInt8) (cur : Array Value) (w0 w wr : World) (k : Nat) (v x : Value) : Prop where
  le : k ≤ l.length
  val : v = .int .i64 (k : Nat)
  blk : Blk wr q [x] 22
  own : Own w0.heap.size wr x (bs ++ apTags (l.take k))
  below : Below w0.heap.size w wr
  row : wr.heap[z]? = some (.cells cur 77 (0, 0))
theorem apTags_snoc (l : List (Nat × List UInt8)) (k : Nat) (t : Nat × List UInt8) (h : l[k]? = some t) : apTags (l.take (k + 1)) = apTags (l.take k) ++ apTags [t] := by
  rw [List.take_add_one, h]
  simp [apTags]
theorem apTags_take (l : List (Nat × List UInt8)) (k : Nat) : (apTags (l.take k)).length ≤ (apTags l).length := by
  have e : apTags l = apTags (l.take k) ++ apTags (l.drop k) := by
    unfold apTags
    rw [← List.flatMap_append, List.take_append_drop]
  rw [e, List.length_append]
  omega
theorem row_block {w : World} {base e n : Nat} {v : Value} {xs : List Value} {k : Nat} (h : w.ownsRow base e 1 v n xs) (hk : v.ownBlock = some k) : ∃ cur, w.heap[k]? = some (.cells cur e (0, 0)) ∧ base ≤ k := by
  rcases h.2 with ⟨rfl, -⟩ | ⟨g, cap, cur, rfl, h1, h2, -⟩
  · cases hk
  · cases hk; exact ⟨cur, h2, h1⟩
theorem iter_ne {w : World} {base e n m b r : Nat} {v : Value} {xs : List Value} {D : VD} {left : Lit → Bool} {cnt : Nat} {P : Program} {k : TypeId} {R : Value → Option (VD × List MemPlace)} (h : w.ownsRow base e 1 v n xs) (hr : w.ranges P k R b r m D left cnt) : v.ownBlock ≠ some r := fun he => by
  obtain ⟨cur, h1, -⟩ := row_block h he
  obtain ⟨_, _, _, _, _, _, _, _, _, hit, _⟩ := hr
  rw [h1] at hit
  cases hit
theorem map_ne {w : World} {base e n m b : Nat} {v : Value} {xs : List Value} {D : VD} {P : Program} {k : TypeId} {R : Value → Option (VD × List MemPlace)} (h : w.ownsRow base e 1 v n xs) (hr : w.ownsMap P k R b m D) : v.ownBlock ≠ some b := fun he => by
  obtain ⟨cur, h1, -⟩ := row_block h he
  obtain ⟨_, _, hit, _⟩ := hr
  rw [h1] at hit
  cases hit
theorem blk_ne {w : World} {base e n p T : Nat} {v : Value} {xs c : List Value} (h : w.ownsRow base e 1 v n xs) (hB : Blk w p c T) (hT : T ≠ e) : v.ownBlock ≠ some p := fun he => by
  obtain ⟨cur, h1, -⟩ := row_block h he
  unfold Blk at hB
  rw [h1] at hB
  simp at hB
  exact hT hB.2.symm
theorem keyK {key : Value} {kl : Lit} (h : keyOf Tryz.prog 77 key = some kl) : ∃ x : Nat, key = encK x ∧ kl = kl32 x ∧ x ≤ 4294967295 := by
  obtain ⟨x, rfl, rfl, hw⟩ := Maps.keyOf_int_inv Tryz.underlying77 h
  unfold Lit.wf at hw
  simp [IntKind.min, IntKind.max, IntKind.bits, IntKind.signed] at hw
  have hx : ((x.toNat : Nat) : Int) = x := Int.toNat_of_nonneg hw.1
  refine ⟨x.toNat, ?_, ?_, by omega⟩
  · unfold encK; rw [hx]
  · unfold kl32; rw [hx]
theorem encK_inj {a b : Nat} (h : encK a = encK b) : a = b := by
  unfold encK at h
  simp at h
  omega
theorem grown_setCell (w : World) (p i : Nat) (u : Value) : w.grownBy (w.setCell ⟨p, i, none⟩ u) (some p) :=
  ⟨rfl, rfl, rfl, by simp [World.setCell], fun k _ hk => Below.heap_setCell _ _ _ _ (fun e => hk (by first | exact congrArg some e | exact congrArg some e.symm))⟩
theorem row_shape {w : World} {base e n : Nat} {v : Value} {xs : List Value} (h : w.ownsRow base e 1 v n xs) (hn : v ≠ .slice none 0 0) : ∃ a c, v = .slice a n c ∧ a ≠ none := by
  rcases h.2 with ⟨rfl, -⟩ | ⟨g, cap, cur, rfl, -⟩
  · exact absurd rfl hn
  · exact ⟨_, _, rfl, by simp⟩
theorem zeroBytes (w : World) : (zeroValue 22).run Tryz.prog w = .ok (.slice none 0 0) w := by kernel_rfl
set_option maxRecDepth 100000 in
set_option maxHeartbeats 2000000 in
theorem tagsEach (hS : SortSpec) {w0 w : World} {b o q : Nat} {x : Value} {bs : List UInt8} {l : List (Nat × List UInt8)} (h : TagMem [] w0 b o l) (hB : Below w0.heap.size w0 w) (hq : w0.heap.size ≤ q) (hblk : Blk w q [x] 22) (hown : Own w0.heap.size w x bs) (hl : bs.length + (apTags l).length ≤ lim) :
    Calls Tryz.prog 217 #[.pointer (some ⟨b, o, none⟩), .func (.func 218) #[] #[.pointer (some ⟨q, 0, none⟩)]] w (EachPost w0 w q (bs ++ apTags l)) := by
  obtain ⟨m, n, D, hc, hm, hn, hv, -, hl6, hl7⟩ := h
  have m0 : w.cell? ⟨b, o, none⟩ = some (.map m) := (hB.cell (p := ⟨b, o, none⟩) (World.block_lt_of_cell? w0 _ hc)).trans hc
  have hsz := hv.size
  cases m with
  | none =>
    cases hm
    have hl0 : l = [] := List.eq_nil_of_length_eq_zero (by rw [← hsz]; rfl)
    subst hl0
    have hE : EachPost w0 w q (bs ++ apTags []) (.returned (.tuple #[])) w := ⟨rfl, x, hblk, by simpa [apTags] using hown, Below.refl _ _⟩
    have HE := Lib.hid hE
    clear hc hn hv hsz hB hblk hown hE hl6 hl7 hl
    go_enter Tryz.func217, Tryz.ntmps217
    go_wp2
    go_end0
    exact HE.out
  | some g =>
    have hm' : w0.ownsMap Tryz.prog 77 R0 g n D := hm
    have hgl := World.ownsMap.lt hm'
    have hown1 : w.ownsMap Tryz.prog 77 R0 g n D := ownsMap_block hm' (hB.block g hgl)
    by_cases hl0 : l = []
    · subst hl0
      have hE : EachPost w0 w q (bs ++ apTags []) (.returned (.tuple #[])) w := ⟨rfl, x, hblk, by simpa [apTags] using hown, Below.refl _ _⟩
      have HE := Lib.hid hE
      have hz : Maps.size D = 0 := hsz
      clear hc hn hv hsz hB hblk hown hE hl6 hl7 hl hm hm'
      go_enter Tryz.func217, Tryz.ntmps217
      go_wp2_with (first
        | (at_len; refine wpList_len_own _ rfl _ 82 rfl 77 22 Tryz.underlying82 _ g n D rfl hown1 ?_; rw [hz])
        | go_in)
      go_end0
      exact HE.out
    · have hlen : 0 < l.length := List.length_pos_iff.2 hl0
      obtain ⟨i0, hi, hz0, hz1, hz2⟩ := info_parts u32Info
      have hlz : ((l.length : Nat) : Int) ≠ 0 := by omega
      have hmax : l.length ≤ maxLen := by unfold maxLen; omega
      have hby : i0.bytes * l.length ≤ 281474976710656 := by rw [hz2]; omega
      have hqlt := hblk.lt
      have X := Lib.hid (And.intro hc (And.intro hm' (And.intro hn (And.intro hv (And.intro hsz (And.intro hB (And.intro hblk (And.intro hown (And.intro hl (And.intro hl6 (And.intro hl7 (And.intro hgl hlen))))))))))))
      clear hc hm hm' hn hv hB hblk hown hl hl6 hl7
      have hgw : g < w.heap.size := hown1.lt
      have I := Lib.hid (And.intro hi (And.intro hz0 (And.intro hz1 (And.intro hz2 (And.intro hby (And.intro hmax (And.intro hown1 (And.intro hgw hqlt))))))))
      clear hi hz0 hz1 hz2 hby hmax hown1 hgw hqlt
      have hsz' := Lib.hid hsz
      clear hsz
      go_enter Tryz.func217, Tryz.ntmps217
      go_wp2_with (first
        | (at_len; refine wpList_len_own _ rfl _ 82 rfl 77 22 Tryz.underlying82 _ g n D rfl I.out.2.2.2.2.2.2.1 ?_; rw [hsz'.out])
        | (at_make; refine wpList_make_own _ rfl _ _ 301 rfl w.heap.size 77 i0 (.int .u32 0) 1 Tryz.underlying301 I.out.1 I.out.2.1 I.out.2.2.1 _ _ _ l.length rfl rfl rfl I.out.2.2.2.2.1 I.out.2.2.2.2.2.1 (Nat.le_refl _) ?_; intro w1 hrow1 hg1; have m1 : w1.cell? ⟨b, o, none⟩ = some (.map (some g)) := hg1.cell m0 (by simp); have m1' : ∀ ob, (w1.alloc ob).cell? ⟨b, o, none⟩ = some (.map (some g)) := fun ob => (World.cell?_of_block (Below.heap_alloc w1 ob _ (World.block_lt_of_cell? w1 _ m1))).trans m1)
        | (at_range; refine wpList_range_own _ rfl _ 82 rfl 77 22 tagKeyed Tryz.underlying82 _ g n D rfl ((I.out.2.2.2.2.2.2.1.kept hg1 (by simp)).alloc _) ?_; intro w2 hrg2 hg2 hs2)
        | go_in)
      try go_frame
      generalize hr : (w1.alloc (.cells #[.slice (some ⟨w.heap.size, 0, none⟩) 0 l.length] 301)).heap.size = r at *
      have k01 : Keeps [] w w1 := (Keeps.refl [] w).grown hg1 (fun k hk => by cases hk)
      have k12 : Keeps [] w1 w2 := ((Keeps.refl [] w1).alloc _).grown hg2 (fun k hk => by cases hk)
      have p4 : Blk w2 w1.heap.size [.slice (some ⟨w.heap.size, 0, none⟩) 0 l.length] 301 := (hg2.block w1.heap.size (by simp) (by simp)).trans (heap_alloc_new w1 _)
      have hrow2 : w2.ownsRow w.heap.size 77 1 (.slice (some ⟨w.heap.size, 0, none⟩) 0 l.length) 0 [] := (hrow1.alloc _).kept hg2 (.inr (by simp [Value.ownBlock]))
      have hbel2 : Below w.heap.size w w2 := (Keeps.trans k01 k12).below (Nat.le_refl _) (by simp)
      have hI0 : EInv g w1.heap.size r n w.heap.size D l.length w w2 (Maps.has D) (Maps.size D) [] (some ⟨w.heap.size, 0, none⟩) l.length := ⟨hrg2, by rw [hsz'.out]; simp, p4, hrow2, by simp, Coll.start D, hbel2⟩
      have hrr : r = w1.heap.size + 1 := by rw [← hr]; simp
      have RR := Lib.hid (And.intro hg1.size hrr)
      clear hr hrr
      have HI0 := Lib.hid hI0
      have K1 := Lib.hid k01
      clear hrow1 hg1 m1 m1' hrg2 hg2 hs2 k12 p4 hrow2 hbel2 hI0 k01
      go_loopw [] (fun wr => ∃ left cnt ss a c, EInv g w1.heap.size r n w.heap.size D l.length w wr left cnt ss a c) (fun wr => wr.rangeLeft g r)
      case atStart => exact ⟨_, _, _, _, _, HI0.out⟩
      case round =>
        obtain ⟨left, cnt, ss, a, c, hI⟩ := hrel
        have HR := Lib.hid hI
        clear hI HI0
        go_wp2_with (first
          | (at_next; refine wpList_next_ranges _ rfl _ rfl 77 tagKeyed R0 encK (fun v : Value => v) (fun key kl hk => by obtain ⟨x, hx, -⟩ := keyK hk; exact ⟨x, hx⟩) (fun v y hv => ⟨v, rfl⟩) g r n _ _ _ rfl HR.out.hrg ?_ ?_)
          | go_in)
        · intro hc0 hl0
          rcases HR.out.row.2 with ⟨hnil, -⟩ | ⟨z, cap, cur, hve, hbase, hb, h1, h2, h3, h4⟩
          · simp at hnil; exact absurd hnil.1 HR.out.nn
          cases hve
          have hC := hS wr z c w1.heap.size ss cur hb (by simpa using h4) HR.out.box (by have := HR.out.le; have := X.out.2.2.2.2.2.2.2.2.2.1; omega)
          have m5 := HR.out.box.cell_some (i := 0) rfl
          have C := Lib.hid hC
          have L0 := Lib.hid (And.intro hl0 (And.intro hbase hb))
          clear hC hl0 hbase hb h1 h2 h3 h4 hc0
          go_wp2_with fail
          refine C.out.mono ?_
          rintro e w5 ⟨rfl, ks', cur', hperm, hsort, hz5, hc5, hg5⟩
          have hk' : ks' = l.map (·.1) := HR.out.coll.sorted L0.out.1 X.out.2.2.2.1 hperm hsort
          have hll : ss.length = l.length := by rw [← hperm.length_eq, hk', List.length_map]
          have pz : w1.heap.size ≠ z := by
            rintro rfl
            have h := HR.out.box
            unfold Blk at h
            rw [L0.out.2.2] at h
            simp at h
          have box5 : Blk w5 w1.heap.size [.slice (some ⟨z, 0, none⟩) ss.length c] 301 := (hg5.block _ HR.out.box.lt (by simpa using pz)).trans HR.out.box
          have m7 := box5.cell_some (i := 0) rfl
          have bel5 : Below w.heap.size w w5 := HR.out.below.grown hg5 HR.out.below.size (fun j hj => by cases hj; exact L0.out.2.1)
          have W := Lib.hid (And.intro hz5 (And.intro hc5 (And.intro bel5 (And.intro hk' hll))))
          clear C hperm hsort hz5 hc5 hg5 hk' pz box5 bel5 m5
          rw [hll] at m7
          clear hll
          go_wp2
          have hJ0 : EInv2 q z w.heap.size l bs cur' w0 w w5 0 (.int .i64 0) x := by
            have hk5 : Keeps [] w w5 := Keeps.of_below W.out.2.2.1 (Nat.le_refl _)
            refine ⟨by omega, rfl, X.out.2.2.2.2.2.2.1.keeps hk5 (by simp), ?_, hk5.below X.out.2.2.2.2.2.1.size (by simp), W.out.1⟩
            have h0 := World.ownsRow.kept (w' := w5) (row := none) X.out.2.2.2.2.2.2.2.1 ⟨hk5.os, hk5.tape, hk5.output, hk5.size, fun k hk _ => hk5.block k hk (by simp)⟩ (by cases x.ownBlock <;> simp)
            simpa [apTags, Own] using h0
          have HJ0 := Lib.hid hJ0
          clear hJ0
          go_loopw [39] (fun v wr => ∃ k x', EInv2 q z w.heap.size l bs cur' w0 w wr k v x') (fun v _ => l.length - numOf v)
          case atStart => exact ⟨0, x, HJ0.out⟩
          case round =>
            obtain ⟨k, x', hI⟩ := hrel
            obtain rfl := hI.val
            by_cases hk : k < l.length
            · obtain ⟨kk, val, hlk⟩ : ∃ kk val, l[k]? = some (kk, val) := ⟨l[k].1, l[k].2, List.getElem?_eq_getElem hk⟩
              have hmem : (kk, val) ∈ l := List.mem_of_getElem? hlk
              have b0w : Below w0.heap.size w0 wr := X.out.2.2.2.2.2.1.trans hI.below
              have mb : wr.cell? ⟨b, o, none⟩ = some (.map (some g)) := (b0w.cell (p := ⟨b, o, none⟩) (World.block_lt_of_cell? w0 _ X.out.1)).trans X.out.1
              have hown6 : wr.ownsMap Tryz.prog 77 R0 g n D := ownsMap_block X.out.2.1 (b0w.block g hgl)
              have hkk : kk ≤ 4294967295 := X.out.2.2.2.1.small _ hmem
              obtain ⟨-, v', hat, hrb⟩ := X.out.2.2.2.1.there kk val hmem
              obtain ⟨v1, ps, hrun, hv1⟩ := hown6.lookup tagKeyed Tryz.underlying82 (zeroBytes wr) (zd := .held (.slice none 0 0)) (zp := []) rfl (keyOf_int_mk Tryz.underlying77 (kl32_wf hkk))
              rw [show D.atKey (Lit.int .u32 (kk : Nat)) (.held (.slice none 0 0)) = .held v' from hat _] at hv1
              obtain rfl : v1 = v' := by simp [R0] at hv1; exact hv1.1
              have hz3 : l.length = ss.length := W.out.2.2.2.2.symm
              have mz : wr.cell? ⟨z, k, none⟩ = some (.int .u32 (kk : Nat)) := by
                have h1 : cur'[k]? = some (.int .u32 (kk : Nat)) := by
                  have h2 := congrArg (fun q : List Value => q[k]?) W.out.2.1
                  rw [List.getElem?_take_of_lt (by omega), W.out.2.2.2.1] at h2
                  simpa [hlk] using h2
                have h3 : wr.cell? ⟨z, k, none⟩ = cur'[k]? := by simp [World.cell?, hI.row]
                rw [h3, h1]
              have hal : (bs ++ apTags (l.take k)).length + (apTags [(kk, val)]).length ≤ lim := by
                have h1 := apTags_take l (k + 1)
                rw [apTags_snoc l k _ hlk, List.length_append] at h1
                have := X.out.2.2.2.2.2.2.2.2.1
                simp only [List.length_append]
                omega
              have hC6 := tagPut (w0 := w0) (w := wr) (q := q) (k := kk) (x := x') (v := v1) (bs := bs ++ apTags (l.take k)) (val := val) b0w hrb hq hI.blk hI.own hkk (X.out.2.2.2.2.2.2.2.2.2.2.1 _ hmem) hal
              obtain ⟨sad, scap, rfl, -⟩ : ∃ a cap, v1 = .slice a val.length cap ∧ True := by obtain ⟨a, cap, h, -⟩ := hrb; exact ⟨a, cap, h, trivial⟩
              have C6 := Lib.hid hC6
              have HQ := Lib.hid (And.intro hI (And.intro hlk (And.intro b0w hk)))
              have hk0 : (0 : Int) ≤ (k : Nat) := by omega
              have hk1 : ((k : Nat) : Int) < (l.length : Nat) := by omega
              have hk2 : ((l.length : Nat) : Int) ≤ 4294967295 := by have := X.out.2.2.2.2.2.2.2.2.2.1; omega
              clear hC6 hI hlk b0w hown6 hat hrb hv1 hz3 hal hmem hkk HJ0 hk
              go_wp2_with fail
              refine C6.out.mono ?_
              rintro e w6 ⟨rfl, x6, b6, o6, t6, l6⟩
              have hstep : EInv2 q z w.heap.size l bs cur' w0 w w6 (k + 1) (.int .i64 ((k + 1 : Nat) : Int)) x6 := by
                have hI := HQ.out.1
                refine ⟨by have := HQ.out.2.2.2; omega, rfl, b6, ?_, ⟨t6.os.trans hI.below.os, t6.tape.trans hI.below.tape, t6.output.trans hI.below.output, Nat.le_trans hI.below.size t6.size, fun j hj => (l6.block j hj).trans (X.out.2.2.2.2.2.1.block j hj).symm⟩, ?_⟩
                · rw [apTags_snoc l k _ HQ.out.2.1, ← List.append_assoc]; exact o6
                · have hzl : z < wr.heap.size := (Array.getElem?_eq_some_iff.1 hI.row).1
                  refine (t6.block z hzl (by have := L0.out.2.1; have := I.out.2.2.2.2.2.2.2.2; omega) (fun cr fr h => ?_)).trans hI.row
                  rw [hI.row] at h
                  simp at h
              have HS6 := Lib.hid hstep
              clear C6 b6 o6 t6 l6 hstep
              go_wp2
              go_roundw
              case rel =>
                refine ⟨k + 1, x6, ?_⟩
                have h := HS6.out
                have e1 : ((k + 1 : Nat) : Int) = (k : Int) + 1 := by omega
                rw [e1] at h
                exact h
              case measure =>
                simp only [numOf]
                omega
            · have hkl : k = l.length := by have := hI.le; omega
              have hE : EachPost w0 w q (bs ++ apTags l) (.returned (.tuple #[])) wr := ⟨rfl, x', hI.blk, by have := hI.own; rw [hkl, List.take_length] at this; exact this, hI.below⟩
              have HE := Lib.hid hE
              clear hE hI HJ0
              subst hkl
              go_wp2
              go_end0
              exact HE.out
        · intro x' cc kl yd yp w3 cnt3 hkey hlk hv hat hrg3 hlt hg3 hs3 hen
          obtain ⟨x'', ex, rfl, hk32⟩ := keyK hkey
          obtain rfl := encK_inj ex
          have hrow3 := HR.out.row.kept hg3 (.inr (iter_ne HR.out.row HR.out.hrg))
          have box3 : Blk w3 w1.heap.size [.slice a ss.length c] 301 := (hg3.block _ HR.out.box.lt (by have := RR.out.2; simp; omega)).trans HR.out.box
          have bel3 : Below w.heap.size w w3 := HR.out.below.grown hg3 HR.out.below.size (fun j hj => by cases hj; have := RR.out; omega)
          have hown3 : w3.ownsMap Tryz.prog 77 R0 g n D := hrg3.owns
          have m5 := box3.cell_some (i := 0) rfl
          have hs1 : ss.length + 1 ≤ 4294967295 := by have := HR.out.le; have := X.out.2.2.2.2.2.2.2.2.2.1; omega
          have Y := Lib.hid (And.intro hrow3 (And.intro box3 (And.intro bel3 (And.intro hrg3 (And.intro hlt (And.intro hlk (And.intro hat (And.intro hs1 (And.intro hown3 (And.intro hg3 hk32))))))))))
          have hb1 : ss.length + 1 ≤ maxLen := by unfold maxLen; omega
          have hb2 : (ss.length + 1) * 4 ≤ 140737488355328 := by omega
          have hb3 : w.heap.size ≤ (w3.alloc (.cells #[encK x'] 77)).heap.size := by have := bel3.size; simp; omega
          have Z := Lib.hid (And.intro hb1 (And.intro hb2 hb3))
          have m5' : ∀ ob, (w3.alloc ob).cell? ⟨w1.heap.size, 0, none⟩ = some (.slice a ss.length c) := fun ob => (World.cell?_of_block (Below.heap_alloc w3 ob _ box3.lt)).trans m5
          clear hs3 hrow3 box3 bel3 hrg3 hlt hlk hat hs1 hown3 hg3 hk32 hkey hv hb1 hb2 hb3
          go_wp2_with (first
            | (at_builtin; refine wpList_append_own _ rfl _ _ 301 rfl w.heap.size 77 i0 (.int .u32 0) 1 4 Tryz.underlying301 I.out.1 I.out.2.1 I.out.2.2.1 I.out.2.2.2.1 rfl (by decide) _ _ _ rfl (Y.out.1.alloc _) ⟨w3.heap.size, 0, none⟩ 1 1 [encK x'] rfl rfl (cell_one_new _ _ _) (by simp [Value.oneCell', encK]) Z.out.1 Z.out.2.1 Z.out.2.2 ?_; intro v' w4 hown' hg4 hnil4
               have hnn' : v' ≠ .slice none 0 0 := fun hv' => by have := (hnil4.1 hv').2; omega
               clear hnil4
               obtain ⟨a4, c4, rfl, ha4⟩ := row_shape hown' hnn'
               have box4 : Blk w4 w1.heap.size [.slice a ss.length c] 301 := (hg4.block _ (by have := Y.out.2.1.lt; simp; omega) (fun e => blk_ne Y.out.1 Y.out.2.1 (by decide) e.symm)).trans (Y.out.2.1.keeps ((Keeps.refl [] w3).alloc _) (by simp))
               have m6 := box4.cell_some (i := 0) rfl
               have f6 := box4.frozen 0
               have U := Lib.hid (And.intro hown' (And.intro hg4 (And.intro box4 ha4)))
               clear hown' hg4 box4 ha4 hnn')
            | go_in)
          have e1 : (ss ++ [x']).length = ss.length + 1 := by simp
          have p4r : w1.heap.size ≠ r := by have := RR.out; omega
          have p4g : w1.heap.size ≠ g := by have := RR.out; have := I.out.2.2.2.2.2.2.2.1; omega
          have rg4 := (((Y.out.2.2.2.1.alloc (.cells #[.int .u32 (x' : Nat)] 77)).kept U.out.2.1 (fun e => map_ne Y.out.1 Y.out.2.2.2.2.2.2.2.2.1 e.symm) (fun e => iter_ne Y.out.1 Y.out.2.2.2.1 e.symm)).kept (grown_setCell w4 w1.heap.size 0 (.slice a4 (ss.length + 1) c4)) (by simpa using fun e => p4g e.symm) (by simpa using fun e => p4r e.symm))
          refine ⟨⟨_, cnt3, ss ++ [x'], a4, c4, rg4, ?_, ?_, ?_, U.out.2.2.2, HR.out.coll.step Y.out.2.2.2.2.2.1 Y.out.2.2.2.2.2.2.1, ?_⟩, ?_⟩
          · have := HR.out.le; have := Y.out.2.2.2.2.1; omega
          · rw [e1]; exact U.out.2.2.1.set 0 _
          · rw [e1]
            have h := U.out.1.kept (grown_setCell w4 w1.heap.size 0 (.slice a4 (ss.length + 1) c4)) (.inr (blk_ne U.out.1 U.out.2.2.1 (by decide)))
            simpa using h
          · exact (((Y.out.2.2.1.alloc Y.out.2.2.1.size _).grown U.out.2.1 (by have := Y.out.2.2.1.size; simp; omega) (fun j hj => (Y.out.1.lt j hj).1))).setCell (show w.heap.size ≤ w1.heap.size from RR.out.1) _
          · rw [rg4.left_eq, HR.out.hrg.left_eq]; exact Y.out.2.2.2.2.1
set_option maxHeartbeats 1000000 in
theorem tagsAppend (hS : SortSpec) {w0 w : World} {b o : Nat} {v : Value} {bs : List UInt8} {l : List (Nat × List UInt8)} (h : TagMem [] w0 b o l) (hB : Below w0.heap.size w0 w) (hown : Own w0.heap.size w v bs) (hl : bs.length + (apTags l).length ≤ lim) :
    Calls Tryz.prog 154 #[.pointer (some ⟨b, o, none⟩), v] w (Appended w0.heap.size w (bs ++ apTags l)) := by
  obtain ⟨ya, yc, hx⟩ := own_shape hown
  generalize bs.length = yn at hx
  subst hx
  have hb1 : Blk (w.alloc (.cells #[.slice ya yn yc] 22)) w.heap.size [.slice ya yn yc] 22 := heap_alloc_new w _
  have hal : Below w0.heap.size w (w.alloc (.cells #[.slice ya yn yc] 22)) := (Below.refl _ _).alloc hB.size _
  have C := Lib.hid (tagsEach hS h (hB.trans hal) hB.size hb1 (World.ownsRow.alloc hown _) hl)
  have X := Lib.hid (And.intro hal trivial)
  clear h hB hown hl hb1 hal
  go_enter Tryz.func154, Tryz.ntmps154
  go_wp2_with fail
  refine C.out.mono ?_
  rintro e w1 ⟨rfl, x1, b1, o1, l1⟩
  have m1 := b1.cell_some (i := 0) rfl
  have Y := Lib.hid (And.intro o1 l1)
  clear b1 o1 l1 C
  go_wp2
  go_ret
  exact .mk Y.out.1 (X.out.1.trans Y.out.2)
theorem tagsOK (hS : SortSpec) : TagsOK TagMem Tryz.prog 153 154 := by
  intro w0 b o l h
  have hlen : l.length ≤ 4294967295 := by obtain ⟨m, n, D, -, -, -, -, -, h6, -⟩ := h; exact h6
  exact ⟨hlen, fun w hb => tagsLen h hb, fun w v bs hb hown hl => tagsAppend hS h hb hown hl⟩
end Go.Proofs.YtfchajjllhndlabGreatDoor

/-
  DERIVED: THE SHELF's CONTRACTS AT THIS DUMP, IN PLAIN WORDS (tools/lay-plain.mjs out of 'TryzShelf.lean', which tools/lay-shelf.mjs wrote): THE SAME DECLARATIONS UNDER THE SAME NAMES: 'import', 'namespace', 'open', 'def', 'theorem' AND NOTHING ELSE: no command of the shelf's: FOR A HAND-IN. Each laying: the table of numbers ('.._ren') and one theorem, a field a fact of the dump's own or the kernel's comparison; each contract: ONE APPLICATION.
-/
namespace Go.Proofs
open Go.Shelf
def Tryz.laysGg6_ren : Go.Shelf.Ren := ⟨fun | 6 => 274 | 10 => 280 | 11 => 281 | 12 => 282 | 13 => 283 | 14 => 284 | 24 => 273 | 25 => 295 | 26 => 296 | 27 => 297 | 28 => 298 | 29 => 299 | 30 => 300 | 31 => 301 | 32 => 302 | 33 => 303 | 34 => 304 | 35 => 305 | 36 => 306 | 37 => 307 | 38 => 308 | 39 => 309 | n => n, fun | 20 => 20 | 26 => 303 | 35 => 311 | 0 => 0 | 37 => 313 | 3 => 3 | 41 => 275 | 44 => 318 | 49 => 77 | 51 => 93 | 4 => 4 | 54 => 326 | 53 => 325 | 58 => 330 | 5 => 5 | 9 => 9 | 60 => 332 | 64 => 335 | 66 => 337 | 67 => 338 | 17 => 17 | 32 => 308 | 33 => 309 | 82 => 353 | 12 => 12 | 75 => 346 | 76 => 347 | 77 => 348 | 78 => 349 | 79 => 350 | 80 => 351 | n => n, fun | n => n⟩
theorem Tryz.laysGg6 : Go.Proofs.LaysGg.n6 Tryz.prog Tryz.laysGg6_ren := {
  mixed := by kernel_rfl
  f6 := Tryz.func274.trans (congrArg some (by kernel_rfl))
  f10 := Tryz.func280.trans (congrArg some (by kernel_rfl))
  f11 := Tryz.func281.trans (congrArg some (by kernel_rfl))
  f12 := Tryz.func282.trans (congrArg some (by kernel_rfl))
  f13 := Tryz.func283.trans (congrArg some (by kernel_rfl))
  f14 := Tryz.func284.trans (congrArg some (by kernel_rfl))
  f24 := Tryz.func273.trans (congrArg some (by kernel_rfl))
  f25 := Tryz.func295.trans (congrArg some (by kernel_rfl))
  f26 := Tryz.func296.trans (congrArg some (by kernel_rfl))
  f27 := Tryz.func297.trans (congrArg some (by kernel_rfl))
  f28 := Tryz.func298.trans (congrArg some (by kernel_rfl))
  f29 := Tryz.func299.trans (congrArg some (by kernel_rfl))
  f30 := Tryz.func300.trans (congrArg some (by kernel_rfl))
  f31 := Tryz.func301.trans (congrArg some (by kernel_rfl))
  f32 := Tryz.func302.trans (congrArg some (by kernel_rfl))
  f33 := Tryz.func303.trans (congrArg some (by kernel_rfl))
  f34 := Tryz.func304.trans (congrArg some (by kernel_rfl))
  f35 := Tryz.func305.trans (congrArg some (by kernel_rfl))
  f36 := Tryz.func306.trans (congrArg some (by kernel_rfl))
  f37 := Tryz.func307.trans (congrArg some (by kernel_rfl))
  f38 := Tryz.func308.trans (congrArg some (by kernel_rfl))
  f39 := Tryz.func309.trans (congrArg some (by kernel_rfl))
  t0 := Tryz.underlying0
  a0 := Tryz.isAgg0
  z0 := Tryz.sizeOf0
  v0 := Tryz.zeroValue0
  i0 := by kernel_rfl
  t3 := Tryz.underlying3
  a3 := Tryz.isAgg3
  z3 := Tryz.sizeOf3
  v3 := Tryz.zeroValue3
  i3 := by kernel_rfl
  t4 := Tryz.underlying4
  a4 := Tryz.isAgg4
  z4 := Tryz.sizeOf4
  v4 := Tryz.zeroValue4
  i4 := by kernel_rfl
  t5 := Tryz.underlying5
  a5 := Tryz.isAgg5
  z5 := Tryz.sizeOf5
  v5 := Tryz.zeroValue5
  i5 := by kernel_rfl
  t9 := Tryz.underlying9
  a9 := Tryz.isAgg9
  z9 := Tryz.sizeOf9
  v9 := Tryz.zeroValue9
  i9 := by kernel_rfl
  t12 := Tryz.underlying12
  a12 := Tryz.isAgg12
  z12 := Tryz.sizeOf12
  v12 := Tryz.zeroValue12
  i12 := by kernel_rfl
  t17 := Tryz.underlying17
  a17 := Tryz.isAgg17
  z17 := Tryz.sizeOf17
  v17 := Tryz.zeroValue17
  i17 := by kernel_rfl
  t20 := Tryz.underlying20
  a20 := Tryz.isAgg20
  z20 := Tryz.sizeOf20
  v20 := Tryz.zeroValue20
  i20 := by kernel_rfl
  t26 := Tryz.underlying303
  a26 := Tryz.isAgg303
  z26 := Tryz.sizeOf303
  v26 := Tryz.zeroValue303
  i26 := by kernel_rfl
  t32 := Tryz.underlying308
  a32 := Tryz.isAgg308
  z32 := Tryz.sizeOf308
  v32 := Tryz.zeroValue308
  i32 := by kernel_rfl
  t33 := Tryz.underlying309
  a33 := Tryz.isAgg309
  z33 := Tryz.sizeOf309
  v33 := Tryz.zeroValue309
  i33 := by kernel_rfl
  t35 := Tryz.underlying311
  a35 := Tryz.isAgg311
  z35 := Tryz.sizeOf311
  v35 := Tryz.zeroValue311
  i35 := by kernel_rfl
  t37 := Tryz.underlying313
  a37 := Tryz.isAgg313
  z37 := Tryz.sizeOf313
  v37 := Tryz.zeroValue313
  i37 := by kernel_rfl
  t41 := Tryz.underlying275
  a41 := Tryz.isAgg275
  z41 := Tryz.sizeOf275
  v41 := Tryz.zeroValue275
  i41 := by kernel_rfl
  t44 := Tryz.underlying318
  a44 := Tryz.isAgg318
  z44 := Tryz.sizeOf318
  v44 := Tryz.zeroValue318
  i44 := by kernel_rfl
  t49 := Tryz.underlying77
  a49 := Tryz.isAgg77
  z49 := Tryz.sizeOf77
  v49 := Tryz.zeroValue77
  i49 := by kernel_rfl
  t51 := Tryz.underlying93
  a51 := Tryz.isAgg93
  z51 := Tryz.sizeOf93
  v51 := Tryz.zeroValue93
  i51 := by kernel_rfl
  t53 := Tryz.underlying325
  a53 := Tryz.isAgg325
  z53 := Tryz.sizeOf325
  v53 := Tryz.zeroValue325
  i53 := by kernel_rfl
  t54 := Tryz.underlying326
  a54 := Tryz.isAgg326
  z54 := Tryz.sizeOf326
  v54 := Tryz.zeroValue326
  i54 := by kernel_rfl
  t58 := Tryz.underlying330
  a58 := Tryz.isAgg330
  z58 := Tryz.sizeOf330
  v58 := Tryz.zeroValue330
  i58 := by kernel_rfl
  t60 := Tryz.underlying332
  a60 := Tryz.isAgg332
  z60 := Tryz.sizeOf332
  v60 := Tryz.zeroValue332
  i60 := by kernel_rfl
  t64 := Tryz.underlying335
  a64 := Tryz.isAgg335
  z64 := Tryz.sizeOf335
  v64 := Tryz.zeroValue335
  i64 := by kernel_rfl
  t66 := Tryz.underlying337
  a66 := Tryz.isAgg337
  z66 := Tryz.sizeOf337
  v66 := Tryz.zeroValue337
  i66 := by kernel_rfl
  t67 := Tryz.underlying338
  a67 := Tryz.isAgg338
  z67 := Tryz.sizeOf338
  v67 := Tryz.zeroValue338
  i67 := by kernel_rfl
  t75 := Tryz.underlying346
  a75 := Tryz.isAgg346
  z75 := Tryz.sizeOf346
  v75 := Tryz.zeroValue346
  i75 := by kernel_rfl
  t76 := Tryz.underlying347
  a76 := Tryz.isAgg347
  z76 := Tryz.sizeOf347
  v76 := Tryz.zeroValue347
  i76 := by kernel_rfl
  t77 := Tryz.underlying348
  a77 := Tryz.isAgg348
  z77 := Tryz.sizeOf348
  v77 := Tryz.zeroValue348
  i77 := by kernel_rfl
  t78 := Tryz.underlying349
  a78 := Tryz.isAgg349
  z78 := Tryz.sizeOf349
  v78 := Tryz.zeroValue349
  i78 := by kernel_rfl
  t79 := Tryz.underlying350
  a79 := Tryz.isAgg350
  z79 := Tryz.sizeOf350
  v79 := Tryz.zeroValue350
  i79 := by kernel_rfl
  t80 := Tryz.underlying351
  a80 := Tryz.isAgg351
  z80 := Tryz.sizeOf351
  v80 := Tryz.zeroValue351
  i80 := by kernel_rfl
  t82 := Tryz.underlying353
  a82 := Tryz.isAgg353
  z82 := Tryz.sizeOf353
  v82 := Tryz.zeroValue353
  i82 := by kernel_rfl }
open Go.RowKit Go.Lib Go.Sort in
/-- **sort.Slice AT NO ELEMENT OR ONE.** (LAID: no walk: one application.) -/
theorem Tryz.sort_Slice_tiny (t e : TypeId) (i ie : TypeInfo) (hi : Tryz.prog.info? t = some i) (hd : i.desc = .slice e) (hpk : Tryz.prog.packed t = false) (hie : Tryz.prog.info? e = some ie) (ke : Nat) (hke : ∀ w, (Extern.Rtype.kind e).run Tryz.prog w = .ok ke w) (p : Option Addr) (n c : Nat) (h1 : n ≤ 1) (f : Nat) (hf : Tryz.prog.funcs.findIdx? (·.name == "internal/reflectlite" ++ ".Swapper$" ++ toString (swapperK n ie ke)) = some f) (lf : Fn) (la lb : Array Value) (w : World) :
    Calls Tryz.prog 274 #[.iface t (.slice p n c), .func lf la lb] w fun e w' => e = .returned (.tuple #[]) ∧ ∃ os, w' = grow w os := Any.sort_Slice_tiny Tryz.laysGg6 t e i ie hi hd hpk hie ke hke p n c h1 f hf lf la lb w
open Go.RowKit Go.Lib Go.Sort in
/-- **sort.Slice, IN THE DOCUMENTATION's OWN TERMS: A PERMUTATION OF WHAT THE ROW HELD, SORTED BY 'lt'.** Which of two equals comes first is left open. (LAID: no walk: one application.) -/
theorem Tryz.sort_Slice_sorted {α : Type} [Inhabited α] (t e : TypeId) (i ie : TypeInfo) (hi : Tryz.prog.info? t = some i) (hd : i.desc = .slice e) (hpk : Tryz.prog.packed t = false) (hie : Tryz.prog.info? e = some ie) (ke : Nat) (hke : ∀ w, (Extern.Rtype.kind e).run Tryz.prog w = .ok ke w) (hs1 : ie.size = 1) (hagg : ∀ w, (isAgg e).run Tryz.prog w = .ok false w) (enc : α → Value) (h1 : ∀ x, (enc x).oneCell' = true) (lt : α → α → Bool) (hO : SWO lt) (g : Nat) (lb : Array Value) (eg : ∀ args w, (callFunc g args).run Tryz.prog w = .ok (.enter g args) w) (blk off c : Nat) (d : Array α) (h2 : 2 ≤ d.size) (hsz : d.size < 4611686018427387904) (f : Nat) (hf : Tryz.prog.funcs.findIdx? (·.name == "internal/reflectlite" ++ ".Swapper$" ++ toString (swapperK d.size ie ke)) = some f) (gS : Bool) (hx : ∀ args W, (callFunc f args).run Tryz.prog W = ((Extern.ReflectliteSwapper.swap gS args).run Tryz.prog W).andThen fun v w' => .ok (.value v) w') (w : World) (hless : LessReads Tryz.prog g lb enc lt blk off d.size w) (hH : Holds enc w blk off d) (hblk : blk < w.heap.size) :
    Calls Tryz.prog 274 #[.iface t (.slice (some ⟨blk, off, none⟩) d.size c), .func (.func g) #[] lb] w fun e w' =>
      e = .returned (.tuple #[]) ∧ ∃ d' n os, PermIn 0 d.size d d' ∧ SortedIn lt 0 d.size d' ∧ w' = grow (putRow enc (Sort.ahead w n) blk off d') os := Any.sort_Slice_sorted Tryz.laysGg6 t e i ie hi hd hpk hie ke hke hs1 hagg enc h1 lt hO g lb eg blk off c d h2 hsz f hf gS hx w hless hH hblk
end Go.Proofs

/- Unknown tags: their keys, sorted by Go's own sort.Slice. -/
namespace Go.Proofs.YtfchajjllhndlabGreatDoor
open Go Go.RowKit Go.Sort Go.Lib
set_option linter.unusedVariables false

noncomputable def siT : TypeInfo := (Tryz.prog.info? 301).get (by kernel_rfl)
noncomputable def siE : TypeInfo := (Tryz.prog.info? 77).get (by kernel_rfl)
theorem siK (n : Nat) (h2 : 2 ≤ n) : Lib.swapperK n siE 10 = 6 := by
  have a : siE.hasPointers = false := by kernel_rfl
  have b : siE.bytes = 4 := by kernel_rfl
  have c : (n == 0) = false := by simp; omega
  have d : (n == 1) = false := by simp; omega
  simp [Lib.swapperK, a, b, c, d]
def ltN (x y : Nat) : Bool := decide (x < y)
theorem swoN : SWO ltN where
  irrefl x := by simp [ltN]
  trans x y z h1 h2 := by simp only [ltN, decide_eq_true_eq] at *; omega
  ntrans x y z h1 h2 := by simp only [ltN, decide_eq_false_iff_not] at *; omega
theorem holdsK {w : World} {g : Nat} {cur : Array Value} {e : TypeId} {ss : List Nat} (hb : w.heap[g]? = some (.cells cur e (0, 0))) (ht : cur.toList.take ss.length = ss.map encK) : Go.Sort.Holds encK w g 0 ss.toArray := by
  intro j hj
  have hj' : j < ss.length := by simpa using hj
  refine ⟨?_, by simp [World.frozen?, hb]⟩
  have h1 : (cur.toList.take ss.length)[j]? = (ss.map encK)[j]? := by rw [ht]
  rw [List.getElem?_take_of_lt hj'] at h1
  simp only [World.cell?, hb, Nat.zero_add]
  simp only [Option.isSome_none, Bool.false_eq_true, if_false]
  rw [← Array.getElem?_toList, h1]
  simp [hj']
theorem heapK {w : World} {g n : Nat} {os : Array Obj} {cur : Array Value} {e : TypeId} {fr : Nat × Nat} (d : Array Nat) (hb : w.heap[g]? = some (.cells cur e fr)) :
    (grow (putRow encK (Sort.ahead w n) g 0 d) os).heap[g]? = some (.cells (putCells encK 0 d cur) e fr) := by
  have hg : g < w.heap.size := (Array.getElem?_eq_some_iff.1 hb).1
  rw [heap_grow_old _ _ (by simpa using hg)]
  simp [putRow, mapBlock, Sort.ahead, Array.getElem?_modify, hb, onCells]
theorem grownK {w : World} {g n : Nat} {os : Array Obj} (d : Array Nat) : w.grownBy (grow (putRow encK (Sort.ahead w n) g 0 d) os) (some g) := by
  refine ⟨rfl, rfl, rfl, by simp, fun k hk hne => ?_⟩
  rw [heap_grow_old _ _ (by simpa using hk)]
  have : g ≠ k := fun e => hne (by rw [e])
  simp [putRow, mapBlock, Sort.ahead, Array.getElem?_modify, this]
theorem takeK (cur : Array Value) (ts : List Nat) (h : ts.length ≤ cur.size) : (putCells encK 0 ts.toArray cur).toList.take ts.length = ts.map encK := by
  apply List.ext_getElem?
  intro j
  by_cases hj : j < ts.length
  · rw [List.getElem?_take_of_lt hj, Array.getElem?_toList]
    simp [putCells, hj, show j < cur.size by omega]
  · rw [List.getElem?_take_eq_none (by omega), List.getElem?_eq_none (by simp; omega)]
set_option maxHeartbeats 2000000 in
/-- 'func(i, j int) bool { return ordered[i] < ordered[j] }'. -/
theorem tagLess (blk c Bs size : Nat) (W : World) (G : Nat → Nat) (hs : W.cell? ⟨Bs, 0, none⟩ = some (.slice (some ⟨blk, 0, none⟩) size c)) (hc : ∀ t, t < size → W.cell? ⟨blk, 0 + t, none⟩ = some (.int .u32 (G t : Nat))) (i j : Nat) (hi : i < size) (hj : j < size) :
    Calls Tryz.prog 275 #[.int .i64 i, .int .i64 j, .pointer (some ⟨Bs, 0, none⟩)] W fun e w' => e = .returned (.bool (ltN (G i) (G j))) ∧ ∃ q, w' = W.drewN q := by
  have ci := hc i hi
  have cj := hc j hj
  rw [Nat.zero_add] at ci cj
  go_enter Tryz.func275, Tryz.ntmps275
  go_wp2
  go_quiet (fail)
  go_wp2
  go_ret
  exact ⟨by simp [ltN], nq, rfl⟩
theorem short_sorted : ∀ ks : List Nat, ¬ 2 ≤ ks.length → ks.Pairwise (· ≤ ·)
  | [], _ => List.Pairwise.nil
  | [x], _ => by simp
  | x :: y :: r, h => absurd (by simp) h
set_option maxHeartbeats 2000000 in
theorem sortOK : SortSpec := by
  intro w z c p ks cur hz ht hp hl
  have hzl : z < w.heap.size := (Array.getElem?_eq_some_iff.1 hz).1
  have hH := holdsK hz ht
  have hlen : ks.length ≤ cur.size := by
    have := congrArg List.length ht
    simp at this
    omega
  have hzp : p ≠ z := by
    rintro rfl
    unfold Blk at hp
    rw [hz] at hp
    simp at hp
  by_cases h2 : 2 ≤ ks.length
  · have hless : LessReads Tryz.prog 275 #[.pointer (some ⟨p, 0, none⟩)] encK ltN z 0 ks.toArray.size w := by
      intro m os dk hs i j hi hj
      have hHg : Go.Sort.Holds encK (Sort.ahead w m) z 0 ks.toArray := holds_ahead _ _ _ _ _ _ hH
      refine tagLess z c p ks.toArray.size _ (fun t => dk[t]!) ?_ (fun t ht => ?_) i j hi hj
      · unfold sortWorld
        rw [cell?_grow _ _ _ (by simpa using hp.lt), cell?_putRow_other _ _ z 0 dk _ (Or.inl hzp)]
        have := hp.cell_some (i := 0) rfl
        exact this
      · unfold sortWorld
        rw [cell?_grow _ _ _ (by simpa using hzl)]
        exact cell?_putRow _ _ z 0 ks.toArray dk hHg hs t (by omega)
    have hS := Tryz.sort_Slice_sorted 301 77 siT siE (by kernel_rfl) (by kernel_rfl) (by kernel_rfl) (by kernel_rfl) 10 (fun _ => by kernel_rfl) (by kernel_rfl) (fun _ => by kernel_rfl) encK (fun _ => rfl) ltN swoN 275 _
      (enters_of Tryz.func275 (by kernel_rfl) rfl) z 0 c ks.toArray (by simpa using h2) (by simp; omega) 291 (by rw [siK _ (by simpa using h2)]; kernel_rfl) true
      (fun args W => run_callFunc_extern Tryz.func291 (by kernel_rfl) (by kernel_rfl) (by kernel_rfl) (e := Extern.ReflectliteSwapper.swap true) (by kernel_rfl) args W) w hless hH hzl
    have e0 : ks.toArray.size = ks.length := by simp
    rw [e0] at hS
    refine hS.mono ?_
    rintro e w' ⟨rfl, d', n, os, hpm, hso, rfl⟩
    have hpm' : PermIn 0 ks.toArray.size ks.toArray d' := by rw [e0]; exact hpm
    have hso' : SortedIn ltN 0 ks.toArray.size d' := by rw [e0]; exact hso
    obtain ⟨hsz, -, hperm⟩ := hpm'
    have e1 : d'.extract 0 ks.toArray.size = d' := by rw [← hsz]; exact Array.extract_size
    rw [e1, Array.extract_size] at hperm
    have hd : d'.toList.toArray = d' := by simp
    refine ⟨rfl, d'.toList, putCells encK 0 d' cur, hperm, ?_, heapK d' hz, ?_, grownK d'⟩
    · refine List.pairwise_iff_getElem.2 fun i j hi hj hij => ?_
      have h := hso' i j (Nat.zero_le _) hij (by rw [← hsz]; simpa using hj)
      simp only [ltN, decide_eq_false_iff_not] at h
      simp at hi hj
      rw [getElem!_pos d' i hi, getElem!_pos d' j hj] at h
      simp only [Array.getElem_toList]
      omega
    · have h := takeK cur d'.toList (by simp; omega)
      rw [hd] at h
      have e2 : d'.toList.length = ks.length := by simp; omega
      rw [e2] at h
      exact h
  · have hS : Calls Tryz.prog 274 #[.iface 301 (.slice (some ⟨z, 0, none⟩) ks.length c), .func (.func 275) #[] #[.pointer (some ⟨p, 0, none⟩)]] w fun e w' => e = .returned (.tuple #[]) ∧ ∃ os, w' = grow w os := by
      rcases Nat.eq_zero_or_pos ks.length with h | h
      · rw [h]
        exact Tryz.sort_Slice_tiny 301 77 siT siE (by kernel_rfl) (by kernel_rfl) (by kernel_rfl) (by kernel_rfl) 10 (fun _ => by kernel_rfl) (some ⟨z, 0, none⟩) 0 c (by omega) 286 (by rw [show Lib.swapperK 0 siE 10 = 1 by simp [Lib.swapperK]]; kernel_rfl) (.func 275) #[] #[.pointer (some ⟨p, 0, none⟩)] w
      · have h : ks.length = 1 := by omega
        rw [h]
        exact Tryz.sort_Slice_tiny 301 77 siT siE (by kernel_rfl) (by kernel_rfl) (by kernel_rfl) (by kernel_rfl) 10 (fun _ => by kernel_rfl) (some ⟨z, 0, none⟩) 1 c (by omega) 287 (by rw [show Lib.swapperK 1 siE 10 = 2 by simp [Lib.swapperK]]; kernel_rfl) (.func 275) #[] #[.pointer (some ⟨p, 0, none⟩)] w
    refine hS.mono ?_
    rintro e w' ⟨rfl, os, rfl⟩
    refine ⟨rfl, ks, cur, List.Perm.refl _, ?_, ?_, ht, ?_⟩
    · exact short_sorted ks h2
    · rw [heap_grow_old _ _ hzl]; exact hz
    · exact ⟨rfl, rfl, rfl, by simp, fun k hk _ => heap_grow_old _ _ hk⟩
end Go.Proofs.YtfchajjllhndlabGreatDoor

/- Tags: what is written of none. -/
namespace Go.Proofs.YtfchajjllhndlabGreatDoor
open Go Go.RowKit
set_option maxHeartbeats 400000 in
theorem tagsLen0 (a : Addr) (w : World) (hc : w.cell? a = some (.map none)) : Calls Tryz.prog 153 #[.pointer (some a)] w fun e w' => e = .returned (.int .i64 0) ∧ w = w' := by
  go_enter Tryz.func153, Tryz.ntmps153
  go_wp2
  go_ret
  exact ⟨rfl, rfl⟩
set_option maxHeartbeats 400000 in
theorem tagsEach0 (a : Addr) (fn : Value) (w : World) (hc : w.cell? a = some (.map none)) : Calls Tryz.prog 217 #[.pointer (some a), fn] w fun e w' => e = .returned (.tuple #[]) ∧ w = w' := by
  go_enter Tryz.func217, Tryz.ntmps217
  go_wp2
  exact bodyPost_ret (results_none rfl _ _ _) rfl ⟨rfl, rfl⟩
set_option maxHeartbeats 400000 in
theorem appendEach0 (a : Addr) (base : Nat) (w : World) (v : Value) (bs : List UInt8) (hc : w.cell? a = some (.map none)) (hown : Own base w v bs) (hb : base ≤ w.heap.size) :
    Calls Tryz.prog 154 #[.pointer (some a), v] w (Appended base w bs) := by
  have hlt : a.block < w.heap.size := World.block_lt_of_cell? w a hc
  have hv : ∃ ad n c, v = .slice ad n c := by
    rcases hown.2 with ⟨rfl, -⟩ | ⟨g, cap, cur, rfl, -⟩
    · exact ⟨_, _, _, rfl⟩
    · exact ⟨_, _, _, rfl⟩
  obtain ⟨ad, n, c, rfl⟩ := hv
  go_enter Tryz.func154, Tryz.ntmps154
  go_wp2_with fail
  refine (tagsEach0 a _ _ ?_).mono ?_
  · rw [World.cell?_alloc_lt _ _ _ hlt]; exact hc
  rintro e w' ⟨rfl, rfl⟩
  go_wp2
  go_ret
  exact .mk (hown.alloc _) ((Below.refl _ _).alloc hb _)
end Go.Proofs.YtfchajjllhndlabGreatDoor

/- The kinds of fields, each with the function that writes it, at this program. -/
namespace Go.Proofs.YtfchajjllhndlabGreatDoor
open Go Go.RowKit

theorem kok2 {N lo t a b : Nat} {x y : Value} (h : (a ≠ 1 ∧ (a < lo ∨ (N ≤ a ∧ a < t))) ∧ (b ≠ 1 ∧ (b < lo ∨ (N ≤ b ∧ b < t)))) : KOK N lo t [(a, x), (b, y)] := by
  intro p hp
  simp only [List.mem_cons, List.not_mem_nil, or_false] at hp
  rcases hp with rfl | rfl
  · exact h.1
  · exact h.2
theorem kok1 {N lo t a : Nat} {x : Value} (h : a ≠ 1 ∧ (a < lo ∨ (N ≤ a ∧ a < t))) : KOK N lo t [(a, x)] := by
  intro p hp
  simp only [List.mem_cons, List.not_mem_nil, or_false] at hp
  subst hp
  exact h
theorem mem2a {p q : Nat × Value} : p ∈ [p, q] := List.mem_cons_self ..
theorem mem2b {p q : Nat × Value} : q ∈ [p, q] := List.mem_cons_of_mem _ (List.mem_cons_self ..)
theorem mem1a {p : Nat × Value} : p ∈ [p] := List.mem_cons_self ..

theorem str_size (l : List UInt8) : (ByteArray.mk l.toArray).size = l.length := by simp [ByteArray.size]
theorem str_data (l : List UInt8) : (ByteArray.mk l.toArray).data.toList = l := by simp
theorem cell_eq {w : World} {ad : Addr} {x y : Value} (h : w.cell? ad = some x) (h' : w.cell? ad = some y) : x = y := Option.some.inj (h.symm.trans h')

theorem leaf_i8 (ver : Int) (flex : Bool) : LeafOK Tryz.prog ver flex 159 .i8 := by
  intro w0 b o x v hr hc
  cases v <;> simp only [RepLeaf] at hr <;> try exact hr.elim
  obtain ⟨h1, h2, h3⟩ := hr
  obtain rfl := cell_eq h1 hc
  exact (appendInt8 _ h2 h3).at
theorem leaf_i16 (ver : Int) (flex : Bool) : LeafOK Tryz.prog ver flex 148 .i16 := by
  intro w0 b o x v hr hc
  cases v <;> simp only [RepLeaf] at hr <;> try exact hr.elim
  obtain ⟨h1, h2, h3⟩ := hr
  obtain rfl := cell_eq h1 hc
  exact (appendInt16 _ h2 h3).at
theorem leaf_i32 (ver : Int) (flex : Bool) : LeafOK Tryz.prog ver flex 147 .i32 := by
  intro w0 b o x v hr hc
  cases v <;> simp only [RepLeaf] at hr <;> try exact hr.elim
  obtain ⟨h1, h2, h3⟩ := hr
  obtain rfl := cell_eq h1 hc
  exact (appendInt32 _ h2 h3).at
theorem leaf_u16 (ver : Int) (flex : Bool) : LeafOK Tryz.prog ver flex 172 .u16 := by
  intro w0 b o x v hr hc
  cases v <;> simp only [RepLeaf] at hr <;> try exact hr.elim
  obtain ⟨h1, h2, h3⟩ := hr
  obtain rfl := cell_eq h1 hc
  exact (appendUint16 _ h2 h3).at
theorem leaf_i64 (ver : Int) (flex : Bool) : LeafOK Tryz.prog ver flex 180 .i64 := by
  intro w0 b o x v hr hc
  cases v <;> simp only [RepLeaf] at hr <;> try exact hr.elim
  obtain rfl := cell_eq hr hc
  exact (appendInt64 _).at
theorem leaf_bool (ver : Int) (flex : Bool) : LeafOK Tryz.prog ver flex 167 .bool := by
  intro w0 b o x v hr hc
  cases v <;> simp only [RepLeaf] at hr <;> try exact hr.elim
  obtain rfl := cell_eq hr hc
  exact (appendBool _).at
theorem leaf_str_false (ver : Int) : LeafOK Tryz.prog ver false 161 .str := by
  intro w0 b o x v hr hc
  cases v <;> simp only [RepLeaf] at hr <;> try exact hr.elim
  rename_i l
  obtain ⟨h1, h2⟩ := hr
  obtain rfl := cell_eq h1 hc
  have h := (appendString ⟨l.toArray⟩ (by rw [str_size]; simp [strMax] at h2; omega)).at (w0 := w0)
  rw [str_size, str_data] at h
  exact h
theorem leaf_str_true (ver : Int) : LeafOK Tryz.prog ver true 160 .str := by
  intro w0 b o x v hr hc
  cases v <;> simp only [RepLeaf] at hr <;> try exact hr.elim
  rename_i l
  obtain ⟨h1, h2⟩ := hr
  obtain rfl := cell_eq h1 hc
  have h := (appendCompactString ⟨l.toArray⟩ (by rw [str_size]; simp [strMax] at h2; omega)).at (w0 := w0)
  rw [str_size, str_data] at h
  exact h
theorem leaf_nstr_false (ver : Int) : LeafOK Tryz.prog ver false 158 .nstr := by
  intro w0 b o x v hr hc
  cases v <;> simp only [RepLeaf] at hr <;> try exact hr.elim
  · rename_i l
    obtain ⟨⟨p, q, h1, -, h3⟩, h2⟩ := hr
    obtain rfl := cell_eq h1 hc
    intro w v bs hb ho hl
    have h := appendNullableString_some ⟨l.toArray⟩ (by rw [str_size]; simp [strMax] at h2; omega) ⟨p, q, none⟩ w0.heap.size w v bs ((hb.cell (World.block_lt_of_cell? w0 _ h3)).trans h3) ho hb.size
    rw [str_size, str_data] at h
    exact h hl
  · obtain rfl := cell_eq hr hc
    exact appendNullableString_nil.at
/-- The same of a text that may be null from a version on, at these versions. -/
theorem leaf_nstrFrom_false (ver n : Int) (hn : ¬ ver < n) : LeafOK Tryz.prog ver false 158 (.nstrFrom n) := by
  intro w0 b o x v hr hc
  cases v <;> simp only [RepLeaf] at hr <;> try exact hr.elim
  · rename_i l
    exact leaf_nstr_false ver w0 b o x (.bytes l) hr hc
  · have h := leaf_nstr_false ver w0 b o x .null hr hc
    simpa [apLeaf, hn] using h
theorem leaf_nstr_true (ver : Int) : LeafOK Tryz.prog ver true 157 .nstr := by
  intro w0 b o x v hr hc
  cases v <;> simp only [RepLeaf] at hr <;> try exact hr.elim
  · rename_i l
    obtain ⟨⟨p, q, h1, -, h3⟩, h2⟩ := hr
    obtain rfl := cell_eq h1 hc
    intro w v bs hb ho hl
    have h := appendCompactNullableString_some ⟨l.toArray⟩ (by rw [str_size]; simp [strMax] at h2; omega) ⟨p, q, none⟩ w0.heap.size w v bs ((hb.cell (World.block_lt_of_cell? w0 _ h3)).trans h3) ho hb.size
    rw [str_size, str_data] at h
    exact h hl
  · obtain rfl := cell_eq hr hc
    exact appendCompactNullableString_nil.at
/-- The same of a text that may be null from a version on, at these versions. -/
theorem leaf_nstrFrom_true (ver n : Int) (hn : ¬ ver < n) : LeafOK Tryz.prog ver true 157 (.nstrFrom n) := by
  intro w0 b o x v hr hc
  cases v <;> simp only [RepLeaf] at hr <;> try exact hr.elim
  · rename_i l
    exact leaf_nstr_true ver w0 b o x (.bytes l) hr hc
  · have h := leaf_nstr_true ver w0 b o x .null hr hc
    simpa [apLeaf, hn] using h
theorem tags_none : TagsOK noTags Tryz.prog 153 154 := by
  rintro w0 b o l ⟨rfl, hc⟩
  have hlt := World.block_lt_of_cell? w0 _ hc
  refine ⟨by simp, fun w hb => tagsLen0 _ w ((hb.cell hlt).trans hc), fun w v bs hb ho hl => ?_⟩
  have h := appendEach0 ⟨b, o, none⟩ w0.heap.size w v bs ((hb.cell hlt).trans hc) ho hb.size
  simpa [apTags] using h
theorem uvOK (n : Nat) (h : n ≤ 4294967295) : AppC Tryz.prog 152 (.int .u32 n) (uv n) := appendUvarint n h
theorem en_147 : Enters Tryz.prog 147 := Tryz.call147
theorem en_148 : Enters Tryz.prog 148 := Tryz.call148
theorem en_149 : Enters Tryz.prog 149 := Tryz.call149
theorem en_150 : Enters Tryz.prog 150 := Tryz.call150
theorem en_151 : Enters Tryz.prog 151 := Tryz.call151
theorem en_152 : Enters Tryz.prog 152 := Tryz.call152
theorem en_153 : Enters Tryz.prog 153 := Tryz.call153
theorem en_154 : Enters Tryz.prog 154 := Tryz.call154
theorem en_157 : Enters Tryz.prog 157 := Tryz.call157
theorem en_158 : Enters Tryz.prog 158 := Tryz.call158
theorem en_159 : Enters Tryz.prog 159 := Tryz.call159
theorem en_160 : Enters Tryz.prog 160 := Tryz.call160
theorem en_161 : Enters Tryz.prog 161 := Tryz.call161
theorem en_167 : Enters Tryz.prog 167 := Tryz.call167
theorem en_168 : Enters Tryz.prog 168 := Tryz.call168
theorem en_169 : Enters Tryz.prog 169 := Tryz.call169
theorem en_172 : Enters Tryz.prog 172 := Tryz.call172
theorem en_180 : Enters Tryz.prog 180 := Tryz.call180
theorem en_204 : Enters Tryz.prog 204 := Tryz.call204
theorem en_205 : Enters Tryz.prog 205 := Tryz.call205
theorem en_206 : Enters Tryz.prog 206 := Tryz.call206
theorem en_207 : Enters Tryz.prog 207 := Tryz.call207
theorem en_208 : Enters Tryz.prog 208 := Tryz.call208
theorem en_209 : Enters Tryz.prog 209 := Tryz.call209
theorem en_211 : Enters Tryz.prog 211 := Tryz.call211
theorem en_215 : Enters Tryz.prog 215 := Tryz.call215
theorem en_216 : Enters Tryz.prog 216 := Tryz.call216
theorem en_217 : Enters Tryz.prog 217 := Tryz.call217
theorem en_218 : Enters Tryz.prog 218 := Tryz.call218
theorem en_220 : Enters Tryz.prog 220 := Tryz.call220
theorem en_221 : Enters Tryz.prog 221 := Tryz.call221
theorem en_222 : Enters Tryz.prog 222 := Tryz.call222
theorem en_223 : Enters Tryz.prog 223 := Tryz.call223
theorem en_224 : Enters Tryz.prog 224 := Tryz.call224
theorem en_225 : Enters Tryz.prog 225 := Tryz.call225
theorem en_226 : Enters Tryz.prog 226 := Tryz.call226
theorem en_227 : Enters Tryz.prog 227 := Tryz.call227
theorem en_228 : Enters Tryz.prog 228 := Tryz.call228
theorem en_230 : Enters Tryz.prog 230 := Tryz.call230
theorem en_234 : Enters Tryz.prog 234 := Tryz.call234
theorem en_242 : Enters Tryz.prog 242 := Tryz.call242
theorem en_245 : Enters Tryz.prog 245 := Tryz.call245
theorem en_270 : Enters Tryz.prog 270 := Tryz.call270
theorem en_271 : Enters Tryz.prog 271 := Tryz.call271
theorem en_272 : Enters Tryz.prog 272 := Tryz.call272
theorem en_275 : Enters Tryz.prog 275 := Tryz.call275
theorem en_276 : Enters Tryz.prog 276 := Tryz.call276
theorem en_277 : Enters Tryz.prog 277 := Tryz.call277
theorem en_279 : Enters Tryz.prog 279 := Tryz.call279
theorem lenOK_false (n : Nat) (h : n ≤ 2147483647) : AppC Tryz.prog 150 (.int .i64 n) (lenB false n) := appendArrayLen n (by omega)
theorem nlenOK_false (n : Nat) (h : n ≤ 2147483647) : AppC2 Tryz.prog 169 n false (lenB false n) := fun base w v bs ho hb hl => appendNullableArrayLen_false n (by omega) base w v bs ho hb hl
theorem nnulOK_false : AppC2 Tryz.prog 169 0 true (nulB false) := fun base w v bs ho hb hl => appendNullableArrayLen_true 0 (by omega) base w v bs ho hb hl
theorem lenOK_true (n : Nat) (h : n ≤ 2147483647) : AppC Tryz.prog 149 (.int .i64 n) (lenB true n) := appendCompactArrayLen n (by omega)
theorem nlenOK_true (n : Nat) (h : n ≤ 2147483647) : AppC2 Tryz.prog 168 n false (lenB true n) := fun base w v bs ho hb hl => appendCompactNullableArrayLen_false n (by omega) base w v bs ho hb hl
theorem nnulOK_true : AppC2 Tryz.prog 168 0 true (nulB true) := fun base w v bs ho hb hl => appendCompactNullableArrayLen_true 0 (by omega) base w v bs ho hb hl
end Go.Proofs.YtfchajjllhndlabGreatDoor

/- Defaults: a part's own values, laid into a fresh part. -/
namespace Go.Proofs.YtfchajjllhndlabGreatDoor
open Go Go.RowKit
set_option linter.unusedVariables false

section
variable {P : Program} {nt : Nat} {sch : Sch} {n : Nat}
/-- The code c lays defaults into the part whose address lies in slot 0, into cells from n on. -/
def DefW (P : Program) (nt n : Nat) (sch : Sch) (c : Code) : Prop := ∀ (w : World) (b o T : Nat) (cs : List Value) (a : Act) (Q : Exit → Act → World → Prop), a.tmps.size = nt → a.defers = [] → aget a 0 = .pointer (some ⟨b, o, none⟩) → Blk w b cs T → Fresh cs o sch →
  (∀ a' w' cs', a'.tmps.size = nt → a'.defers = [] → aget a' 0 = .pointer (some ⟨b, o, none⟩) → Blk w' b cs' T → SameOut cs cs' (o + n) (o + top sch) → Keeps [b] w w' → Fresh cs' o sch → Q .normal a' w') → c.wp P Q a w
theorem DefW.skip : DefW P nt n sch .skip := fun w b o T cs a Q h1 h2 h3 h4 h5 hq => wp_skip (hq a w cs h1 h2 h3 h4 (SameOut.refl _ _ _) (Keeps.refl _ _) h5)
theorem DefW.seq {c1 c2 : Code} (h1 : DefW P nt n sch c1) (h2 : DefW P nt n sch c2) : DefW P nt n sch (c1.seq c2) := fun w b o T cs a Q g1 g2 g3 g4 g5 hq => wp_seq (h1 w b o T cs a _ g1 g2 g3 g4 g5 fun a1 w1 cs1 k1 k2 k3 k4 k5 k6 k7 =>
  h2 w1 b o T cs1 a1 _ k1 k2 k3 k4 k7 fun a2 w2 cs2 j1 j2 j3 j4 j5 j6 j7 => hq a2 w2 cs2 j1 j2 j3 j4 (k5.trans j5 ⟨Nat.le_refl _, Nat.le_refl _⟩ ⟨Nat.le_refl _, Nat.le_refl _⟩) (k6.trans j6) j7)
/-- Cell i is none of those that must be empty. -/
def freeAt (i : Nat) : Nat → Sch → Bool
  | _, .leaf _ => true
  | p, .list _ _ _ => decide (p ≠ i)
  | p, .opt _ => decide (p ≠ i)
  | _, .done => true
  | p, .tags off => decide (p + off ≠ i)
  | p, .cons off _ _ f rest => freeAt i (p + off) f && freeAt i p rest
def leafAt (i : Nat) : Nat → Sch → Bool
  | p, .leaf .uuid => false
  | p, .leaf _ => decide (p = i)
  | p, .cons off _ _ f rest => leafAt i (p + off) f || leafAt i p rest
  | _, _ => false
theorem fresh_set {v : Value} {i o : Nat} : ∀ {s : Sch} {p : Nat} {cs : List Value}, freeAt i p s = true → Fresh cs (o + p) s → Fresh (cs.set (o + i) v) (o + p) s
  | .leaf k, p, cs, h, hF => by cases k <;> simpa only [Fresh, List.length_set] using hF
  | .list _ _ _, p, cs, h, hF => by
    simp only [freeAt, decide_eq_true_eq] at h
    simp only [Fresh] at hF ⊢
    rw [List.getElem?_set_ne (by omega)]
    exact hF
  | .opt _, p, cs, h, hF => by
    simp only [freeAt, decide_eq_true_eq] at h
    simp only [Fresh] at hF ⊢
    rw [List.getElem?_set_ne (by omega)]
    exact hF
  | .done, p, cs, h, hF => trivial
  | .tags off, p, cs, h, hF => by
    simp only [freeAt, decide_eq_true_eq] at h
    simp only [Fresh] at hF ⊢
    rw [List.getElem?_set_ne (by omega)]
    exact hF
  | .cons off lo hi f rest, p, cs, h, hF => by
    simp only [freeAt, Bool.and_eq_true] at h
    simp only [Fresh] at hF ⊢
    refine ⟨?_, fresh_set h.2 hF.2⟩
    rw [Nat.add_assoc] at hF ⊢
    exact fresh_set h.1 hF.1
theorem leaf_lt {i o : Nat} : ∀ {s : Sch} {p : Nat} {cs : List Value}, leafAt i p s = true → Fresh cs (o + p) s → o + i < cs.length
  | .leaf k, p, cs, h, hF => by cases k <;> simp only [leafAt, decide_eq_true_eq, Bool.false_eq_true] at h <;> (subst h; exact hF)
  | .list _ _ _, p, cs, h, hF => by simp [leafAt] at h
  | .opt _, p, cs, h, hF => by simp [leafAt] at h
  | .done, p, cs, h, hF => by simp [leafAt] at h
  | .tags off, p, cs, h, hF => by simp [leafAt] at h
  | .cons off lo hi f rest, p, cs, h, hF => by
    simp only [leafAt, Bool.or_eq_true] at h
    simp only [Fresh] at hF
    rcases h with h | h
    · rw [Nat.add_assoc] at hF
      exact leaf_lt h hF.1
    · exact leaf_lt h hF.2
/-- 'v.F = c'. -/
theorem DefW.one {i t1 T' k U r y1 y2 y3 y4 : Nat} {q1 q2 q3 q4 : String} {g1 g2 g3 g4 : Array Edge} {x : Value} (hT : FieldAt P T' k i) (hU : OneCell P U) (hx : One x) (hf : (freeAt i 0 sch && leafAt i 0 sch && decide (n ≤ i) && decide (i < top sch)) = true) (hd : 0 < t1 ∧ t1 + 2 < nt) :
    DefW P nt n sch (.region r #[⟨some t1, .move (.tmp 0), y1, q1, g1, none⟩, ⟨some (t1 + 1), .nilCheck (.tmp t1), y2, q2, g2, none⟩, ⟨some (t1 + 2), .fieldAddr T' (.tmp (t1 + 1)) k, y3, q3, g3, none⟩, ⟨none, .store U (.tmp (t1 + 2)) (.const x), y4, q4, g4, none⟩] false) := by
  intro w b o T cs a Q hN hdf h0 hB hF hq
  obtain ⟨d1, d2⟩ := hd
  simp only [Bool.and_eq_true, decide_eq_true_eq] at hf
  have hlt : o + i < cs.length := leaf_lt hf.1.1.2 (by simpa using hF)
  refine wp_reg ?_
  refine wl_move h0 ?_
  refine wl_nilCheck (aget_put_same _ _ _ (by omega)) ?_
  refine wl_fieldAddr hT (aget_put_same _ _ _ (by simp only [size_put]; omega)) ?_
  rw [Addr.add_lit]
  refine wl_store (w' := w.setCell ⟨b, o + i, none⟩ x) ?_ ?_
  · rw [aget_eval, aget_put_same _ _ _ (by simp only [size_put]; omega)]
    exact run_store_blk hU hB hlt hx
  · refine wpList_nil (hq _ _ (cs.set (o + i) x) (by simp only [size_put, hN]) (by simp only [defers_put, hdf]) ?_ (hB.set _ _) ((SameOut.set cs (o + i) x).mono (by omega) (by omega)) ((Keeps.refl [b] w).setCell (by simp) _) ?_)
    · rw [aget_put_other _ _ _ _ (by omega), aget_put_other _ _ _ _ (by omega), aget_put_other _ _ _ _ (by omega)]; exact h0
    · have h := fresh_set (v := x) (i := i) (o := o) hf.1.1.1 (by simpa using hF)
      simpa using h
theorem DefW.calls {F : Nat} {fn : Func} {c : Code} (hf : P.funcs[F]? = some fn) (hb : fn.body = some c) (hnt : fn.ntmps = nt) (h1 : 0 < nt) (hr : fn.results = #[]) (h : DefW P nt n sch c) (w : World) (b o T : Nat) (cs : List Value) (hB : Blk w b cs T) (hF : Fresh cs o sch) :
    Calls P F #[.pointer (some ⟨b, o, none⟩)] w fun en w' => ∃ cs', en = .returned (.tuple #[]) ∧ Blk w' b cs' T ∧ SameOut cs cs' (o + n) (o + top sch) ∧ Keeps [b] w w' ∧ Fresh cs' o sch := by
  refine calls_of_wp hf hb ?_
  rw [hnt]
  refine h w b o T cs _ _ ?_ rfl ?_ hB hF fun a' w' cs' k1 k2 k3 k4 k5 k6 k7 => ?_
  · simp; omega
  · simp [aget, Array.getD_eq_getD_getElem?, Array.getElem?_append]
  · exact bodyPost_end (results_none hr _ _ _) k2 ⟨cs', rfl, k4, k5, k6, k7⟩
theorem DefW.defC {F : Nat} {fn : Func} {c : Code} (hf : P.funcs[F]? = some fn) (hb : fn.body = some c) (hnt : fn.ntmps = nt) (h1 : 0 < nt) (hr : fn.results = #[]) (h : DefW P nt 0 sch c) : DefC P F sch :=
  fun w b o T cs hB hF => h.calls hf hb hnt h1 hr w b o T cs hB hF
theorem DefW.defT {F off0 : Nat} {fn : Func} {c : Code} (hf : P.funcs[F]? = some fn) (hb : fn.body = some c) (hnt : fn.ntmps = nt) (h1 : 0 < nt) (hr : fn.results = #[]) (h : DefW P nt n sch c) (hn : off0 < n) (w : World) (b o T : Nat) (cs : List Value) (hB : Blk w b cs T) (hF : Fresh cs o sch) : DefT P F b o T off0 sch w :=
  (h.calls hf hb hnt h1 hr w b o T cs hB hF).mono fun en w' ⟨cs', k1, k2, k3, k4, k5⟩ => ⟨cs', k1, k2, k4, k5, by rw [k2.cell, hB.cell, k3.out _ (.inl (by omega))]⟩
end
end Go.Proofs.YtfchajjllhndlabGreatDoor
