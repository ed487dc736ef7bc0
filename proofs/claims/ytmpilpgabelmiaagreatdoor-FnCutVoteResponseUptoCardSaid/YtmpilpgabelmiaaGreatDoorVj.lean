/- Shared texts of these proofs, laid together by merge.py: Kwa, Kwb, Kwc, Kwd, Kwe, Kwf, Kwg, Kwh, Kwi, Kwj, Tt. -/
import Derived.Test.YtmpilpgabelmiaaGreatDoorVf
import Derived.Test.YtmpilpgabelmiaaGreatDoorVa
import Derived.Lib.ItoaNum
import Derived.Lib.Hide
import Derived.Test.YtmpilpgabelmiaaGreatDoorVi
import Derived.ScopeJumps
import Derived.Stop.BytesEq
import Derived.Great.BuildSlice
set_option linter.unusedVariables false
/- Known tags, written: functions that append, told with a block that they leave alone. -/
namespace Go.Proofs.YtmpilpgabelmiaaGreatDoor
open Go Go.RowKit
set_option linter.unusedVariables false

/-- Function f, with one argument behind the bytes, appends new; block z, none of the bytes' own, stays, and it becomes none of theirs. -/
def AppCZ (P : Program) (f : Nat) (arg : Value) (new : List UInt8) : Prop :=
  ∀ (base z : Nat) (w : World) (v : Value) (bs : List UInt8), Own base w v bs → base ≤ w.heap.size → z < w.heap.size → v.ownBlock ≠ some z → bs.length + new.length ≤ lim →
    Calls P f #[v, arg] w fun e w' => ∃ v', e = .returned v' ∧ Own base w' v' (bs ++ new) ∧ Below base w w' ∧ w'.heap[z]? = w.heap[z]? ∧ v'.ownBlock ≠ some z
set_option maxRecDepth 100000 in
set_option maxHeartbeats 1000000 in
theorem appendUvarint1Z (n : Nat) (h0 : 0 ≤ n) (h1 : n ≤ 127) : AppCZ Tryz.prog 42 (.int .u32 n) (uv n) := by
  intro base z w v bs hown hb hz hvz hl
  have hu : ulen n = 1 := by unfold ulen; split <;> (try split) <;> (try split) <;> (try split) <;> omega
  rw [uv1 (by omega)] at hl ⊢
  go_enter Tryz.func42, Tryz.ntmps42
  go_wp2_with fail
  refine (uvarintLen w n (by omega) (by omega)).mono ?_
  rintro e w' ⟨rfl, rfl⟩
  rw [hu]
  clear hu
  go_wp2_with (at_builtin; refine halted ?_)
  refine wpl_append_bytesZ bt rfl _ _ rfl base bs hown hb _ [UInt8.ofNat n] ?_ rfl hl z hz (by exact hvz) ?_
  · simp only [List.map_cons, List.map_nil, byteV_nat (show n < 256 by omega)]
    all_goals rfl
  intro v' w' hown' hbel hzz hvz'
  go_wp2
  go_ret
  exact ⟨v', rfl, hown', hbel, hzz, hvz'⟩
set_option maxRecDepth 100000 in
set_option maxHeartbeats 1000000 in
theorem appendUvarint2Z (n : Nat) (h0 : 128 ≤ n) (h1 : n ≤ 16383) : AppCZ Tryz.prog 42 (.int .u32 n) (uv n) := by
  intro base z w v bs hown hb hz hvz hl
  have hu : ulen n = 2 := by unfold ulen; split <;> (try split) <;> (try split) <;> (try split) <;> omega
  rw [uv2 (by omega) (by omega)] at hl ⊢
  go_enter Tryz.func42, Tryz.ntmps42
  go_wp2_with fail
  refine (uvarintLen w n (by omega) (by omega)).mono ?_
  rintro e w' ⟨rfl, rfl⟩
  rw [hu]
  clear hu
  go_wp2_with (at_builtin; refine halted ?_)
  refine wpl_append_bytesZ bt rfl _ _ rfl base bs hown hb _ [UInt8.ofNat (n % 128 + 128), UInt8.ofNat (n / 128)] ?_ rfl hl z hz (by exact hvz) ?_
  · simp only [List.map_cons, List.map_nil, byteV_nat (show n % 128 + 128 < 256 by omega), byteV_nat (show n / 128 < 256 by omega)]
    rw [show ((n : Int) / 128) = ((n / 128 : Nat) : Int) by omega, seven (n) (by omega)]
  intro v' w' hown' hbel hzz hvz'
  go_wp2
  go_ret
  exact ⟨v', rfl, hown', hbel, hzz, hvz'⟩
set_option maxRecDepth 100000 in
set_option maxHeartbeats 1000000 in
theorem appendUvarint3Z (n : Nat) (h0 : 16384 ≤ n) (h1 : n ≤ 2097151) : AppCZ Tryz.prog 42 (.int .u32 n) (uv n) := by
  intro base z w v bs hown hb hz hvz hl
  have hu : ulen n = 3 := by unfold ulen; split <;> (try split) <;> (try split) <;> (try split) <;> omega
  rw [uv3 (by omega) (by omega)] at hl ⊢
  go_enter Tryz.func42, Tryz.ntmps42
  go_wp2_with fail
  refine (uvarintLen w n (by omega) (by omega)).mono ?_
  rintro e w' ⟨rfl, rfl⟩
  rw [hu]
  clear hu
  go_wp2_with (at_builtin; refine halted ?_)
  refine wpl_append_bytesZ bt rfl _ _ rfl base bs hown hb _ [UInt8.ofNat (n % 128 + 128), UInt8.ofNat (n / 128 % 128 + 128), UInt8.ofNat (n / 16384)] ?_ rfl hl z hz (by exact hvz) ?_
  · simp only [List.map_cons, List.map_nil, byteV_nat (show n % 128 + 128 < 256 by omega), byteV_nat (show n / 128 % 128 + 128 < 256 by omega), byteV_nat (show n / 16384 < 256 by omega)]
    rw [show ((n : Int) / 128) = ((n / 128 : Nat) : Int) by omega, show ((n : Int) / 16384) = ((n / 16384 : Nat) : Int) by omega, seven (n) (by omega), seven (n / 128) (by omega)]
  intro v' w' hown' hbel hzz hvz'
  go_wp2
  go_ret
  exact ⟨v', rfl, hown', hbel, hzz, hvz'⟩
set_option maxRecDepth 100000 in
set_option maxHeartbeats 1000000 in
theorem appendUvarint4Z (n : Nat) (h0 : 2097152 ≤ n) (h1 : n ≤ 268435455) : AppCZ Tryz.prog 42 (.int .u32 n) (uv n) := by
  intro base z w v bs hown hb hz hvz hl
  have hu : ulen n = 4 := by unfold ulen; split <;> (try split) <;> (try split) <;> (try split) <;> omega
  rw [uv4 (by omega) (by omega)] at hl ⊢
  go_enter Tryz.func42, Tryz.ntmps42
  go_wp2_with fail
  refine (uvarintLen w n (by omega) (by omega)).mono ?_
  rintro e w' ⟨rfl, rfl⟩
  rw [hu]
  clear hu
  go_wp2_with (at_builtin; refine halted ?_)
  refine wpl_append_bytesZ bt rfl _ _ rfl base bs hown hb _ [UInt8.ofNat (n % 128 + 128), UInt8.ofNat (n / 128 % 128 + 128), UInt8.ofNat (n / 16384 % 128 + 128), UInt8.ofNat (n / 2097152)] ?_ rfl hl z hz (by exact hvz) ?_
  · simp only [List.map_cons, List.map_nil, byteV_nat (show n % 128 + 128 < 256 by omega), byteV_nat (show n / 128 % 128 + 128 < 256 by omega), byteV_nat (show n / 16384 % 128 + 128 < 256 by omega), byteV_nat (show n / 2097152 < 256 by omega)]
    rw [show ((n : Int) / 128) = ((n / 128 : Nat) : Int) by omega, show ((n : Int) / 16384) = ((n / 16384 : Nat) : Int) by omega, show ((n : Int) / 2097152) = ((n / 2097152 : Nat) : Int) by omega, seven (n) (by omega), seven (n / 128) (by omega), seven (n / 16384) (by omega)]
  intro v' w' hown' hbel hzz hvz'
  go_wp2
  go_ret
  exact ⟨v', rfl, hown', hbel, hzz, hvz'⟩
set_option maxRecDepth 100000 in
set_option maxHeartbeats 1000000 in
theorem appendUvarint5Z (n : Nat) (h0 : 268435456 ≤ n) (h1 : n ≤ 4294967295) : AppCZ Tryz.prog 42 (.int .u32 n) (uv n) := by
  intro base z w v bs hown hb hz hvz hl
  have hu : ulen n = 5 := by unfold ulen; split <;> (try split) <;> (try split) <;> (try split) <;> omega
  rw [uv5 (by omega) (by omega)] at hl ⊢
  go_enter Tryz.func42, Tryz.ntmps42
  go_wp2_with fail
  refine (uvarintLen w n (by omega) (by omega)).mono ?_
  rintro e w' ⟨rfl, rfl⟩
  rw [hu]
  clear hu
  go_wp2_with (at_builtin; refine halted ?_)
  refine wpl_append_bytesZ bt rfl _ _ rfl base bs hown hb _ [UInt8.ofNat (n % 128 + 128), UInt8.ofNat (n / 128 % 128 + 128), UInt8.ofNat (n / 16384 % 128 + 128), UInt8.ofNat (n / 2097152 % 128 + 128), UInt8.ofNat (n / 268435456)] ?_ rfl hl z hz (by exact hvz) ?_
  · simp only [List.map_cons, List.map_nil, byteV_nat (show n % 128 + 128 < 256 by omega), byteV_nat (show n / 128 % 128 + 128 < 256 by omega), byteV_nat (show n / 16384 % 128 + 128 < 256 by omega), byteV_nat (show n / 2097152 % 128 + 128 < 256 by omega), byteV_nat (show n / 268435456 < 256 by omega)]
    rw [show ((n : Int) / 128) = ((n / 128 : Nat) : Int) by omega, show ((n : Int) / 16384) = ((n / 16384 : Nat) : Int) by omega, show ((n : Int) / 2097152) = ((n / 2097152 : Nat) : Int) by omega, show ((n : Int) / 268435456) = ((n / 268435456 : Nat) : Int) by omega, seven (n) (by omega), seven (n / 128) (by omega), seven (n / 16384) (by omega), seven (n / 2097152) (by omega)]
  intro v' w' hown' hbel hzz hvz'
  go_wp2
  go_ret
  exact ⟨v', rfl, hown', hbel, hzz, hvz'⟩
theorem appendUvarintZ (n : Nat) (h : n ≤ 4294967295) : AppCZ Tryz.prog 42 (.int .u32 n) (uv n) := by
  by_cases h1 : n ≤ 127
  · exact appendUvarint1Z n (by omega) h1
  by_cases h2 : n ≤ 16383
  · exact appendUvarint2Z n (by omega) h2
  by_cases h3 : n ≤ 2097151
  · exact appendUvarint3Z n (by omega) h3
  by_cases h4 : n ≤ 268435455
  · exact appendUvarint4Z n (by omega) h4
  · exact appendUvarint5Z n (by omega) h
set_option maxHeartbeats 400000 in
theorem appendUint16Z (x : Int) (h0 : 0 ≤ x) (h1 : x ≤ 65535) : AppCZ Tryz.prog 57 (.int .u16 x) (be16 x) := by
  intro base z w v bs hown hb hz hvz hl
  go_enter Tryz.func57, Tryz.ntmps57
  go_wp2_with (at_builtin; refine halted ?_)
  refine wpl_append_bytesZ bt rfl _ _ rfl base bs hown hb _ (be16 x) ?_ rfl hl z hz (by exact hvz) ?_
  · have e : x / 256 % 256 = x / 256 := by omega
    simp only [be16, List.map_cons, List.map_nil, byteV_bb, e]
  intro v' w' hown' hbel hzz hvz'
  go_wp2
  go_ret
  exact ⟨v', rfl, hown', hbel, hzz, hvz'⟩
set_option maxHeartbeats 400000 in
theorem appendInt16Z (x : Int) (h0 : -32768 ≤ x) (h1 : x ≤ 32767) : AppCZ Tryz.prog 32 (.int .i16 x) (be16 x) := by
  intro base z w v bs hown hb hz hvz hl
  go_enter Tryz.func32, Tryz.ntmps32
  go_wp2_with fail
  refine (appendUint16Z (x % 65536) (by omega) (by omega) base z w v bs hown hb hz hvz hl).mono ?_
  rintro e w' ⟨v', rfl, hown', hbel, hzz, hvz'⟩
  rw [be16_mod] at hown'
  go_wp2
  go_ret
  exact ⟨v', rfl, hown', hbel, hzz, hvz'⟩
set_option maxRecDepth 100000 in
set_option maxHeartbeats 1000000 in
theorem appendUint64Z (x : Int) (h0 : 0 ≤ x) (h1 : x / 72057594037927936 ≤ 255) : AppCZ Tryz.prog 75 (.int .u64 x) (be64 x) := by
  intro base z w v bs hown hb hz hvz hl
  go_enter Tryz.func75, Tryz.ntmps75
  go_wp2_with (at_builtin; refine halted ?_)
  refine wpl_append_bytesZ bt rfl _ _ rfl base bs hown hb _ (be64 x) ?_ rfl hl z hz (by exact hvz) ?_
  · have e : x / 72057594037927936 % 256 = x / 72057594037927936 := by omega
    simp only [be64, List.map_cons, List.map_nil, byteV_bb, e]
  intro v' w' hown' hbel hzz hvz'
  go_wp2
  go_ret
  exact ⟨v', rfl, hown', hbel, hzz, hvz'⟩
set_option maxRecDepth 100000 in
set_option maxHeartbeats 400000 in
theorem appendInt64Z (x : Int) : AppCZ Tryz.prog 33 (.int .i64 x) (be64 x) := by
  intro base z w v bs hown hb hz hvz hl
  go_enter Tryz.func33, Tryz.ntmps33
  go_wp2_with fail
  refine (appendUint64Z (x % 18446744073709551616) (by omega) (by omega) base z w v bs hown hb hz hvz hl).mono ?_
  rintro e w' ⟨v', rfl, hown', hbel, hzz, hvz'⟩
  rw [be64_mod] at hown'
  go_wp2
  go_ret
  exact ⟨v', rfl, hown', hbel, hzz, hvz'⟩
end Go.Proofs.YtmpilpgabelmiaaGreatDoor

/- Known tags, written: one tag. -/
namespace Go.Proofs.YtmpilpgabelmiaaGreatDoor
open Go Go.RowKit
set_option linter.unusedVariables false

section
variable {RT : RTags} {P : Program} {N nt : Nat} {w0 : World} {K : Slots} {lo t : Nat} {ver : Int}
/-- The code c appends new; block z, none of the bytes', stays. -/
def AppZ (P : Program) (N nt : Nat) (w0 : World) (K : Slots) (lo t : Nat) (c : Code) (new : List UInt8) : Prop :=
  ∀ (a : Act) (w : World) (bs : List UInt8) (z : Nat) (Q : Exit → Act → World → Prop), St nt w0 a w bs → Holds K a → z < w.heap.size → (aget a 1).ownBlock ≠ some z → bs.length + new.length ≤ lim →
    (∀ a' w', St nt w0 a' w' (bs ++ new) → Fr N lo t 1 a a' → w'.heap[z]? = w.heap[z]? → w.heap.size ≤ w'.heap.size → (aget a' 1).ownBlock ≠ some z → Q .normal a' w') → c.wp P Q a w
theorem AppZ.seq {c1 c2 : Code} {n1 n2 : List UInt8} (hk : KOK N lo t K) (h1 : AppZ P N nt w0 K lo t c1 n1) (h2 : AppZ P N nt w0 K lo t c2 n2) : AppZ P N nt w0 K lo t (c1.seq c2) (n1 ++ n2) := by
  intro a w bs z Q hst hh hz hvz hl hq
  simp only [List.length_append] at hl
  refine wp_seq (h1 a w bs z _ hst hh hz hvz (by omega) fun a1 w1 hst1 hf1 k1 k2 k3 => ?_)
  refine h2 a1 w1 _ z _ hst1 (hh.fr hk hf1) (by omega) k3 (by simp only [List.length_append]; omega) fun a2 w2 hst2 hf2 j1 j2 j3 => ?_
  rw [List.append_assoc] at hst2
  exact hq a2 w2 hst2 (hf1.trans hf2) (j1.trans k1) (by omega) j3
/-- 'dst = F(dst, c)'. -/
theorem kw_const {t1 F r ty1 ty2 ty3 : Nat} {p1 p2 p3 : String} {e1 e2 e3 : Array Edge} {at_ : Array TypeId} {x : Value} {new : List UInt8} (he : Enters P F) (hC : AppCZ P F x new) (hD : Dims N nt lo t) (hd : t ≤ t1 ∧ t1 + 1 < nt) :
    AppZ P N nt w0 K lo t (Code.region r #[⟨some t1, .move (.tmp 1), ty1, p1, e1, none⟩, ⟨some (t1 + 1), .call { callee := .value (.func F), args := #[.tmp t1, .const x], argTypes := at_ }, ty2, p2, e2, none⟩, ⟨some 1, .assign (.tmp (t1 + 1)), ty3, p3, e3, none⟩] false) new := by
  intro a w bs z Q hst hh hz hvz hl hq
  obtain ⟨g1, g2, g3, g4⟩ := hD
  have hN := hst.size
  refine wp_reg ?_
  refine wl_move rfl ?_
  refine wl_call (R := fun e w' => ∃ v', e = .returned v' ∧ Own w0.heap.size w' v' (bs ++ new) ∧ Below w0.heap.size w w' ∧ w'.heap[z]? = w.heap[z]? ∧ v'.ownBlock ≠ some z) he ?_ ?_
  · simp only [List.map_toArray, List.map_cons, List.map_nil, aget_eval]
    rw [aget_put_same _ _ _ (by omega)]
    exact hC w0.heap.size z w _ bs hst.own hst.below.size hz hvz hl
  rintro e w' ⟨v', rfl, hown, hbel, hzz, hvz'⟩
  refine ⟨v', rfl, ?_⟩
  refine wl_assign (aget_put_same _ _ _ (by simp only [size_put]; omega)) ?_
  have e1 : aget (((a.put (some t1) (aget a 1)).put (some (t1 + 1)) v').put (some 1) v') 1 = v' := aget_put_same _ _ _ (by simp only [size_put]; omega)
  refine wpList_nil (hq _ _ ⟨by simp only [size_put, hN], ?_, hst.below.trans hbel⟩ ((((Fr.refl N lo t 1 a).put _ _ (by omega)).put _ _ (by omega)).put _ _ (by omega)) hzz hbel.size ?_)
  · rw [e1]; exact hown
  · rw [e1]; exact hvz'
/-- 'dst = F(dst, v)'. -/
theorem kw_slot {u t1 F r ty1 ty2 ty3 ty4 : Nat} {p1 p2 p3 p4 : String} {e1 e2 e3 e4 : Array Edge} {at_ : Array TypeId} {x : Value} {new : List UInt8} (he : Enters P F) (hC : AppCZ P F x new) (hD : Dims N nt lo t) (hd : t ≤ t1 ∧ t1 + 2 < nt ∧ u ≠ t1) :
    AppZ P N nt w0 ((u, x) :: K) lo t (Code.region r #[⟨some t1, .move (.tmp 1), ty1, p1, e1, none⟩, ⟨some (t1 + 1), .move (.tmp u), ty2, p2, e2, none⟩,
      ⟨some (t1 + 2), .call { callee := .value (.func F), args := #[.tmp t1, .tmp (t1 + 1)], argTypes := at_ }, ty3, p3, e3, none⟩, ⟨some 1, .assign (.tmp (t1 + 2)), ty4, p4, e4, none⟩] false) new := by
  intro a w bs z Q hst hh hz hvz hl hq
  obtain ⟨g1, g2, g3, g4⟩ := hD
  obtain ⟨h1, h2, h3⟩ := hd
  have hN := hst.size
  refine wp_reg ?_
  refine wl_move rfl ?_
  refine wl_move (v := x) (by rw [aget_put_other _ _ _ _ (by omega)]; exact hh.head) ?_
  refine wl_call (R := fun e w' => ∃ v', e = .returned v' ∧ Own w0.heap.size w' v' (bs ++ new) ∧ Below w0.heap.size w w' ∧ w'.heap[z]? = w.heap[z]? ∧ v'.ownBlock ≠ some z) he ?_ ?_
  · simp only [List.map_toArray, List.map_cons, List.map_nil, aget_eval]
    rw [aget_put_other _ _ _ _ (by omega), aget_put_same _ _ _ (by omega), aget_put_same _ _ _ (by simp only [size_put]; omega)]
    exact hC w0.heap.size z w _ bs hst.own hst.below.size hz hvz hl
  rintro e w' ⟨v', rfl, hown, hbel, hzz, hvz'⟩
  refine ⟨v', rfl, ?_⟩
  refine wl_assign (aget_put_same _ _ _ (by simp only [size_put]; omega)) ?_
  have e1 : aget ((((a.put (some t1) (aget a 1)).put (some (t1 + 1)) x).put (some (t1 + 2)) v').put (some 1) v') 1 = v' := aget_put_same _ _ _ (by simp only [size_put]; omega)
  refine wpList_nil (hq _ _ ⟨by simp only [size_put, hN], ?_, hst.below.trans hbel⟩ (((((Fr.refl N lo t 1 a).put _ _ (by omega)).put _ _ (by omega)).put _ _ (by omega)).put _ _ (by omega)) hzz hbel.size ?_)
  · rw [e1]; exact hown
  · rw [e1]; exact hvz'

/-- A tag, as it is written. -/
def tagB (k : Nat) (x : List UInt8) : List UInt8 := uv k ++ (uv x.length ++ x)
/-- The code that writes a known tag; 'strong': block z stays. -/
def KWB (RT : RTags) (P : Program) (N nt : Nat) (ver : Int) (strong : Bool) (K : Slots) (lo t s : Nat) (c : Code) (off : Nat) (f : Sch) (k : Nat) : Prop :=
  ∀ (w0 : World) (b o : Nat) (v : GV), Rep RT [] w0 ver true f b (o + off) v → ∀ (a : Act) (w : World) (bs : List UInt8) (z : Nat) (Q : Exit → Act → World → Prop), St nt w0 a w bs → Holds ((s, .pointer (some ⟨b, o, none⟩)) :: K) a →
    z < w.heap.size → (aget a 1).ownBlock ≠ some z → bs.length + (tagB k (ap ver true f v)).length ≤ lim →
    (∀ a' w', St nt w0 a' w' (bs ++ tagB k (ap ver true f v)) → Fr N lo t 1 a a' → (strong = true → w'.heap[z]? = w.heap[z]? ∧ (aget a' 1).ownBlock ≠ some z) → Q .normal a' w') → c.wp P Q a w
/-- A number. -/
theorem kwb_int {s v t1 T k' U off r ty1 ty2 ty3 ty4 ty5 lo' t' kt : Nat} {p1 p2 p3 p4 p5 : String} {e1 e2 e3 e4 e5 : Array Edge} {c1 c2 c3 : Code} {lf : Leaf} {n : Nat}
    (hk : KOK N lo t K) (hs : s ≠ 1 ∧ s < lo) (hT : FieldAt P T k' off) (hU : OneCell P U) (hD : Dims N nt lo t) (hd : t ≤ t1 ∧ t1 + 3 < nt ∧ lo ≤ v ∧ v < N ∧ v < lo' ∧ lo ≤ lo' ∧ t ≤ t' ∧ v ≠ 1) (hlf : lf ≠ .uuid)
    (h1 : ∀ w0 K, AppZ P N nt w0 K lo' t' c1 (uv kt)) (h2 : ∀ w0 K, AppZ P N nt w0 K lo' t' c2 (uv n))
    (h3 : ∀ (w0 : World) (b o : Nat) (x : Value) (g : GV), RepLeaf [] w0 true b o lf g → w0.cell? ⟨b, o, none⟩ = some x → (apLeaf ver true lf g).length = n ∧ AppZ P N nt w0 ((v, x) :: K) lo' t' c3 (apLeaf ver true lf g)) :
    KWB RT P N nt ver true K lo t s ((Code.region r #[⟨some t1, .move (.tmp s), ty1, p1, e1, none⟩, ⟨some (t1 + 1), .nilCheck (.tmp t1), ty2, p2, e2, none⟩, ⟨some (t1 + 2), .fieldAddr T (.tmp (t1 + 1)) k', ty3, p3, e3, none⟩,
      ⟨some (t1 + 3), .load U (.tmp (t1 + 2)), ty4, p4, e4, none⟩, ⟨some v, .assign (.tmp (t1 + 3)), ty5, p5, e5, none⟩] false).seq (c1.seq (c2.seq c3))) off (.leaf lf) kt := by
  intro w0 b o gv hrep a w bs z Q hst hh hz hvz hl hq
  obtain ⟨x, hc⟩ := RepLeaf.hasCell hrep hlf
  obtain ⟨d1, d2, d3, d4, d5, d6, d7, d8⟩ := hd
  have hk' : KOK N lo' t' K := fun p hp => ⟨(hk p hp).1, (hk p hp).2.elim (fun h => .inl (by omega)) (fun h => .inr ⟨h.1, by omega⟩)⟩
  refine wp_seq (reg_load (x0 := nt) (lo := lo) hT hU hst.size hh.head (x := x) (by rw [Addr.add_lit]; exact hst.cell hc) ⟨hD.dT, d1, d2, d3, d4⟩ fun a' hfr0 hx => ?_)
  have hfr := hfr0.to1 hD
  obtain ⟨hlen, h3'⟩ := h3 w0 b (o + off) x gv hrep hc
  have hone : aget a' 1 = aget a 1 := hfr0.same 1 (by have := hD.dOne; have := hD.dLo; have := hD.dT; have := hD.dN; omega) (.inl hD.dOne)
  have key := AppZ.seq (hk'.cons ⟨d8, .inl d5⟩) (h1 w0 _) (AppZ.seq (hk'.cons ⟨d8, .inl d5⟩) (h2 w0 _) h3')
  have e : tagB kt (ap ver true (.leaf lf) gv) = uv kt ++ (uv n ++ apLeaf ver true lf gv) := by unfold tagB; simp only [ap, hlen]
  rw [e] at hl hq
  exact key a' w bs z _ (hst.fr hfr0 hD) ((hh.tail.fr hk hfr).cons hx) hz (by rw [hone]; exact hvz) hl fun a2 w2 hs2 hf2 k1 k2 k3 => hq a2 w2 hs2 (hfr.trans (hf2.mono d6 d7)) (fun _ => ⟨k1, k3⟩)
end
end Go.Proofs.YtmpilpgabelmiaaGreatDoor

/- Known tags, written: a uuid; what is written twice to learn its length. -/
namespace Go.Proofs.YtmpilpgabelmiaaGreatDoor
open Go Go.RowKit
set_option linter.unusedVariables false

section
variable {RT : RTags} {P : Program} {N nt : Nat} {w0 : World} {K : Slots} {lo t : Nat} {ver : Int}
/-- A uuid. -/
theorem kwb_uuid {s v t1 t2 T k U F off r r' ty1 ty2 ty3 ty4 ty5 ty6 ty7 ty8 ty9 ty10 lo' t' kt : Nat} {p1 p2 p3 p4 p5 p6 p7 p8 p9 p10 : String} {e1 e2 e3 e4 e5 e6 e7 e8 e9 e10 : Array Edge} {at_ : Array TypeId} {c1 c2 : Code}
    (hk : KOK N lo t K) (hT : FieldAt P T k off) (hU : ManyCells P U 16) (he : Enters P F) (hF : ∀ u : List UInt8, u.length = 16 → AppC P F (.agg (u.map byteV).toArray) u) (hD : Dims N nt lo t) (hd : t ≤ t1 ∧ t1 + 3 < nt ∧ lo ≤ v ∧ v < N ∧ t ≤ t2 ∧ t2 + 2 < nt ∧ v ≠ t2 ∧ v ≠ 1) (hd2 : v < lo' ∧ lo ≤ lo' ∧ t ≤ t')
    (h1 : ∀ w0 K, AppZ P N nt w0 K lo' t' c1 (uv kt)) (h2 : ∀ w0 K, AppZ P N nt w0 K lo' t' c2 (uv 16)) :
    KWB RT P N nt ver false K lo t s ((Code.region r #[⟨some t1, .move (.tmp s), ty1, p1, e1, none⟩, ⟨some (t1 + 1), .nilCheck (.tmp t1), ty2, p2, e2, none⟩, ⟨some (t1 + 2), .fieldAddr T (.tmp (t1 + 1)) k, ty3, p3, e3, none⟩,
      ⟨some (t1 + 3), .load U (.tmp (t1 + 2)), ty4, p4, e4, none⟩, ⟨some v, .alloc U, ty5, p5, e5, none⟩, ⟨none, .store U (.tmp v) (.tmp (t1 + 3)), ty6, p6, e6, none⟩] false).seq (c1.seq (c2.seq
      (.region r' #[⟨some t2, .move (.tmp 1), ty7, p7, e7, none⟩, ⟨some (t2 + 1), .load U (.tmp v), ty8, p8, e8, none⟩, ⟨some (t2 + 2), .call { callee := .value (.func F), args := #[.tmp t2, .tmp (t2 + 1)], argTypes := at_ }, ty9, p9, e9, none⟩,
        ⟨some 1, .assign (.tmp (t2 + 2)), ty10, p10, e10, none⟩] false)))) off (.leaf .uuid) kt := by
  intro w0 b o gv hrep a w bs z0 Q hst hh hz0 hvz0 hl hq
  cases gv <;> simp only [Rep, RepLeaf] at hrep <;> try exact hrep.elim
  rename_i u
  obtain ⟨hu, hc⟩ := hrep
  obtain ⟨d1, d2, d3, d4, d5, d6, d7, d8⟩ := hd
  obtain ⟨c1', c2', c3'⟩ := hd2
  have hk' : KOK N lo' t' K := fun p hp => ⟨(hk p hp).1, (hk p hp).2.elim (fun h => .inl (by omega)) (fun h => .inr ⟨h.1, by omega⟩)⟩
  obtain ⟨g1, g2, g3, g4⟩ := hD
  have hN := hst.size
  have hone : ∀ x ∈ u.map byteV, x.oneCell' = true := by
    intro x hx
    obtain ⟨_, _, rfl⟩ := List.mem_map.1 hx
    rfl
  refine wp_seq (wp_reg ?_)
  refine wl_move hh.head ?_
  refine wl_nilCheck (aget_put_same _ _ _ (by (first | rw [hN] | simp only [size_put, hN]); omega)) ?_
  refine wl_fieldAddr hT (aget_put_same _ _ _ (by (first | rw [hN] | simp only [size_put, hN]); omega)) ?_
  rw [Addr.add_lit]
  refine wl_value (v := .agg (u.map byteV).toArray) (w' := w) rfl ?_ ?_
  · have e1 : ∀ A : Act, aget A (t1 + 2) = .pointer (some ⟨b, o + off, none⟩) → (execOp A.eval ⟨some (t1 + 3), .load U (.tmp (t1 + 2)), ty4, p4, e4, none⟩).run P w = .ok (.value (.agg (u.map byteV).toArray)) w := by
      intro A hA
      have e2 : A.eval (.tmp (t1 + 2)) = .pointer (some ⟨b, o + off, none⟩) := hA
      have := run_load_many (P := P) hU (w := w) (ad := ⟨b, o + off, none⟩) (l := u.map byteV) (by simpa using hu) (fun j x hx => by
        rw [Addr.add_lit]
        rw [List.getElem?_map] at hx
        cases hj : u[j]? with
        | none => simp [hj] at hx
        | some y =>
          rw [hj] at hx
          cases hx
          exact hst.cell (hc j y hj))
      simp [execOp, e2, this]
    exact e1 _ (aget_put_same _ _ _ (by (first | rw [hN] | simp only [size_put, hN]); omega))
  obtain ⟨z, hz, hza⟩ := run_alloc_many (P := P) hU w
  refine wl_value (v := .pointer (some ⟨w.heap.size, 0, none⟩)) (w' := w.alloc (.cells z U)) rfl (by simp [execOp, hza]) ?_
  obtain ⟨w1, hrun, hblk, hbel, hown⟩ : ∃ w1, (Instr.storeAt U (.pointer (some ⟨w.heap.size, 0, none⟩)) (.agg (u.map byteV).toArray)).run P (w.alloc (.cells z U)) = .ok () w1 ∧ Blk w1 w.heap.size (u.map byteV) U ∧
      Below w0.heap.size w0 w1 ∧ Own w0.heap.size w1 (aget a 1) bs := by
    refine ⟨_, run_store_many (P := P) hU (w := w.alloc (.cells z U)) (g := w.heap.size) (cur := z) (T := U) (heap_alloc_new w _) hz (l := u.map byteV) (by simpa using hu) hone, setRow_heap _ _ _ _ _ _ (heap_alloc_new w _),
      below_setRow (hst.below.alloc hst.below.size _) hst.below.size _, ?_⟩
    refine World.ownsRow.kept hst.own (row := none) ⟨rfl, rfl, rfl, ?_, ?_⟩ ?_
    · simp [World.setRow]
    · intro j hj _
      rw [setRow_other _ _ _ _ (by omega)]
      exact Below.heap_alloc w _ j hj
    · cases h : (aget a 1).ownBlock <;> simp
  refine wl_store (w' := w1) ?_ ?_
  · rw [aget_eval, aget_eval, aget_put_same _ _ _ (by (first | rw [hN] | simp only [size_put, hN]); omega), aget_put_other _ _ _ _ (by omega), aget_put_same _ _ _ (by (first | rw [hN] | simp only [size_put, hN]); omega)]
    exact hrun
  have f1 : Fr N lo t nt a (Act.put (Act.put (Act.put (Act.put (Act.put a (some t1) (.pointer (some ⟨b, o, none⟩))) (some (t1 + 1)) (.pointer (some ⟨b, o, none⟩))) (some (t1 + 2)) (.pointer (some ⟨b, o + off, none⟩))) (some (t1 + 3)) (.agg (u.map byteV).toArray)) (some v) (.pointer (some ⟨w.heap.size, 0, none⟩))) :=
    (((((Fr.refl N lo t nt a).put _ _ (by omega)).put _ _ (by omega)).put _ _ (by omega)).put _ _ (by omega)).put _ _ (by omega)
  refine wpList_nil ?_
  have e16 : tagB kt (ap ver true (.leaf .uuid) (.bytes u)) = (uv kt ++ uv 16) ++ u := by unfold tagB; simp [ap, apLeaf, hu]
  rw [e16] at hl hq
  have x1 : aget (Act.put (Act.put (Act.put (Act.put (Act.put a (some t1) (.pointer (some ⟨b, o, none⟩))) (some (t1 + 1)) (.pointer (some ⟨b, o, none⟩))) (some (t1 + 2)) (.pointer (some ⟨b, o + off, none⟩))) (some (t1 + 3)) (.agg (u.map byteV).toArray)) (some v) (.pointer (some ⟨w.heap.size, 0, none⟩))) v = .pointer (some ⟨w.heap.size, 0, none⟩) := aget_put_same _ _ _ (by (first | rw [hN] | simp only [size_put, hN]); omega)
  generalize (Act.put (Act.put (Act.put (Act.put (Act.put a (some t1) (.pointer (some ⟨b, o, none⟩))) (some (t1 + 1)) (.pointer (some ⟨b, o, none⟩))) (some (t1 + 2)) (.pointer (some ⟨b, o + off, none⟩))) (some (t1 + 3)) (.agg (u.map byteV).toArray)) (some v) (.pointer (some ⟨w.heap.size, 0, none⟩))) = a1 at *
  have h11 : aget a1 1 = aget a 1 := f1.same 1 (by omega) (.inl g1)
  have hst1 : St nt w0 a1 w1 bs := ⟨f1.size.trans hN, by rw [h11]; exact hown, hbel⟩
  have hne : (aget a1 1).ownBlock ≠ some w.heap.size := by
    rw [h11]
    intro e
    have := (World.ownsRow.lt hst.own _ e).2
    omega
  have hsz : w.heap.size < w1.heap.size := hblk.lt
  have hK1 : Holds K a1 := hh.tail.fr hk (f1.to1 ⟨g1, g2, g3, g4⟩)
  simp only [Exit.then]
  refine wp_seq (h1 w0 K a1 w1 bs w.heap.size _ hst1 hK1 hsz hne (by simp only [List.length_append] at hl ⊢; omega) fun a2 w2 hst2 hf2 k3 k4 k5 => ?_)
  simp only [Exit.then]
  refine wp_seq (h2 w0 K a2 w2 _ w.heap.size _ hst2 (hK1.fr hk' hf2) (by omega) k5 (by simp only [List.length_append] at hl ⊢; omega) fun a3 w3 hst3 hf3 j3 j4 j5 => ?_)
  simp only [Exit.then]
  have hblk3 : Blk w3 w.heap.size (u.map byteV) U := (j3.trans k3).trans hblk
  have hv3 : aget a3 v = .pointer (some ⟨w.heap.size, 0, none⟩) := ((hf3.same v (by omega) (.inl c1')).trans (hf2.same v (by omega) (.inl c1'))).trans x1
  have hown3 := hst3.own
  refine reg_uuid2 (lo := lo) hU he hF hu hblk3 hst3.below hown3 rfl hst3.size hv3 ⟨d5, d6, d7, g1, g2, g3, g4⟩ (by simp only [List.length_append] at hl ⊢; omega) fun a' w' hs hf => ?_
  refine hq a' w' (by rw [List.append_assoc] at hs; rw [List.append_assoc] at hs ⊢; exact hs) ((f1.to1 ⟨g1, g2, g3, g4⟩).trans (((hf2.trans hf3).mono c2' c3').trans hf)) (fun h => by cases h)
end
end Go.Proofs.YtmpilpgabelmiaaGreatDoor

/- Known tags, written: what is written twice to learn its length. -/
namespace Go.Proofs.YtmpilpgabelmiaaGreatDoor
open Go Go.RowKit
set_option linter.unusedVariables false

section
variable {RT : RTags} {P : Program} {N nt : Nat} {w0 : World} {K : Slots} {lo t : Nat} {ver : Int}
/-- Code that appends, with what follows it. -/
def AppK (P : Program) (N nt : Nat) (w0 : World) (K : Slots) (lo t : Nat) (ct : Code → Code) (new : List UInt8) : Prop :=
  ∀ (a : Act) (w : World) (bs : List UInt8) (Q : Exit → Act → World → Prop) (R : Code), St nt w0 a w bs → Holds K a → bs.length + new.length ≤ lim →
    (∀ a' w', St nt w0 a' w' (bs ++ new) → Fr N lo t 1 a a' → R.wp P Q a' w') → (ct R).wp P Q a w
theorem appK_one {c : Code} {new : List UInt8} (h : App P N nt w0 K lo t c new) : AppK P N nt w0 K lo t (fun R => c.seq R) new :=
  fun a w bs Q R hst hh hl hq => wp_seq (h a w bs _ hst hh hl fun a' w' k1 k2 => hq a' w' k1 k2)
theorem appK_two {c1 c2 : Code} {n1 n2 : List UInt8} (hk : KOK N lo t K) (h1 : App P N nt w0 K lo t c1 n1) (h2 : App P N nt w0 K lo t c2 n2) : AppK P N nt w0 K lo t (fun R => c1.seq (c2.seq R)) (n1 ++ n2) := by
  intro a w bs Q R hst hh hl hq
  simp only [List.length_append] at hl
  refine wp_seq (h1 a w bs _ hst hh (by omega) fun a1 w1 hst1 hf1 => ?_)
  refine wp_seq (h2 a1 w1 _ _ hst1 (hh.fr hk hf1) (by simp only [List.length_append]; omega) fun a2 w2 hst2 hf2 => ?_)
  rw [List.append_assoc] at hst2
  exact hq a2 w2 hst2 (hf1.trans hf2)
theorem own_slice {base : Nat} {w : World} {v : Value} {bs : List UInt8} (h : Own base w v bs) (hne : bs ≠ []) : ∃ g cap, v = .slice (some ⟨g, 0, none⟩) bs.length cap ∧ bs.length ≤ cap := by
  rcases h.2 with ⟨-, hn⟩ | ⟨g, cap, cur, rfl, -, -, hn, -⟩
  · exact absurd (List.eq_nil_of_length_eq_zero hn) hne
  · exact ⟨g, cap, rfl, hn⟩
/-- The first of them alone. -/
theorem own_cut {base g n cap : Nat} {w : World} {bs bs' : List UInt8} (h : Own base w (.slice (some ⟨g, 0, none⟩) n cap) (bs ++ bs')) : Own base w (.slice (some ⟨g, 0, none⟩) bs.length cap) bs := by
  refine ⟨by simp, .inr ?_⟩
  rcases h.2 with ⟨e, -⟩ | ⟨g', cap', cur, e, h1, h2, h3, h4, h5, h6⟩
  · cases e
  · cases e
    simp only [List.length_append, Nat.mul_one] at h3 h6
    refine ⟨g, cap, cur, rfl, h1, h2, by omega, h4, h5, ?_⟩
    have := congrArg (List.take bs.length) h6
    rw [List.take_take, Nat.min_eq_left (by omega), List.map_append, List.take_append_of_le_length (by simp)] at this
    rw [Nat.mul_one, this]
    exact List.take_of_length_le (by simp)
theorem run_cut_to {UB d s h y : Nat} {q : String} {ee : Array Edge} {A : Act} {g n cap L : Nat} (hB : BytesT P UB 5) (hs : aget A s = .slice (some ⟨g, 0, none⟩) n cap) (hh : aget A h = .int .i64 L) (hL : L ≤ cap) (w : World) :
    (execOp A.eval ⟨some d, .slice UB (.tmp s) none (some (.tmp h)) none, y, q, ee, none⟩).run P w = .ok (.value (.slice (some ⟨g, 0, none⟩) L cap)) w := by
  obtain ⟨i, hi, -, hsz, -⟩ := hB.info
  have h1 : (0 : Int) ≤ (L : Int) := by omega
  have h2 : (L : Int) ≤ (cap : Int) := by omega
  simp [execOp, aget_eval, hs, hh, Instr.sliceAt, Instr.slice, Instr.sliceBounds, run_sliceBound, run_underlying hB.under, sizeOf, typeInfo, hi, h1, h2, Addr.add]
theorem run_cut_from {UB d s h y : Nat} {q : String} {ee : Array Edge} {A : Act} {g n cap L : Nat} (hB : BytesT P UB 5) (hs : aget A s = .slice (some ⟨g, 0, none⟩) n cap) (hh : aget A h = .int .i64 L) (hL : L ≤ n) :
    ∃ ad c, ∀ w, (execOp A.eval ⟨some d, .slice UB (.tmp s) (some (.tmp h)) none none, y, q, ee, none⟩).run P w = .ok (.value (.slice ad (n - L) c)) w := by
  obtain ⟨i, hi, -, hsz, -⟩ := hB.info
  have h1 : (0 : Int) ≤ (L : Int) := by omega
  have h2 : (L : Int) ≤ (n : Int) := by omega
  refine ⟨(if cap = L then some ⟨g, 0, none⟩ else some (Addr.add ⟨g, 0, none⟩ (L * i.size))), cap - L, fun w => ?_⟩
  simp [execOp, aget_eval, hs, hh, Instr.sliceAt, Instr.slice, Instr.sliceBounds, run_sliceBound, run_underlying hB.under, sizeOf, typeInfo, hi, h1, h2]
theorem find_label4 {r r2 r3 r4 l : Nat} {o o2 o3 o4 : Array Oper} {R : Code} : findLabel ((Code.region r o false).seq ((Code.region r2 o2 false).seq ((Code.region r3 o3 false).seq ((Code.region r4 o4 false).seq ((Code.label l).seq R))))) l = some (Code.skip.seq R) := by
  simp [findLabel]
set_option maxHeartbeats 2000000 in
/-- What is written behind its number and its length: written once, its length laid ahead, and written again. -/
theorem kwb_scope {s v sz la t1 t2 t3 t4 t5 T k' U UB I I2 J FU off r r2 r3 r4 r5 r6 r7 l lo' t' kt y1 y2 y3 y4 y5 y6 y7 y8 y9 y10 y11 y12 y13 y14 y15 y16 y17 y18 y19 y20 y21 y22 y23 y24 y25 : Nat}
    {q1 q2 q3 q4 q5 q6 q7 q8 q9 q10 q11 q12 q13 q14 q15 q16 q17 q18 q19 q20 q21 q22 q23 q24 q25 : String} {e1 e2 e3 e4 e5 e6 e7 e8 e9 e10 e11 e12 e13 e14 e15 e16 e17 e18 e19 e20 e21 e22 e23 e24 e25 : Array Edge} {at1 at2 : Array TypeId} {xk : Value} {ct : Code → Code} {f : Sch}
    (hk : KOK N lo t K) (hs : s ≠ 1 ∧ s < lo) (hT : FieldAt P T k' off) (hU : OneCell P U) (hB : BytesT P UB 5) (hI : P.underlying I = some (.int .i64)) (hI2 : P.underlying I2 = some (.int .u32)) (hm : P.follows .mixedOrders = true) (hlim : lim ≤ 4294967295) (he : Enters P FU)
    (hUv : ∀ n : Nat, n ≤ 4294967295 → AppC P FU (.int .u32 n) (uv n)) (hCk : AppCZ P FU xk (uv kt)) (hnk : uv kt ≠ []) (hD : Dims N nt lo t) (hD' : Dims N nt lo' t')
    (hd : t ≤ t1 ∧ t1 + 3 < nt ∧ lo ≤ v ∧ v < N ∧ t ≤ t2 ∧ t2 + 1 < nt ∧ t ≤ t3 ∧ t3 + 1 < nt ∧ t ≤ t4 ∧ t4 + 1 < nt ∧ t ≤ t5 ∧ t5 + 8 < nt) (hd2 : lo ≤ sz ∧ sz < N ∧ lo ≤ la ∧ la < N ∧ v ≠ sz ∧ v ≠ la ∧ sz ≠ la ∧ v < lo' ∧ sz < lo' ∧ la < lo' ∧ lo ≤ lo' ∧ t ≤ t')
    (hx : ∀ (w0 : World) (b o : Nat) (g : GV), Rep RT [] w0 ver true f b o g → ∃ x, w0.cell? ⟨b, o, none⟩ = some x ∧ AppK P N nt w0 ((v, x) :: K) lo' t' ct (ap ver true f g))
    (hBh : headsB #[⟨some t5, .move (.tmp 1), y14, q14, e14, none⟩, ⟨some (t5 + 1), .move (.tmp la), y15, q15, e15, none⟩, ⟨some (t5 + 2), .slice UB (.tmp t5) none (some (.tmp (t5 + 1))) none, y16, q16, e16, none⟩,
      ⟨some (t5 + 3), .move (.tmp 1), y17, q17, e17, none⟩, ⟨some (t5 + 4), .move (.tmp la), y18, q18, e18, none⟩, ⟨some (t5 + 5), .slice UB (.tmp (t5 + 3)) (some (.tmp (t5 + 4))) none none, y19, q19, e19, none⟩,
      ⟨some (t5 + 6), .call { callee := .builtin .len, args := #[.tmp (t5 + 5)], argTypes := #[UB] }, y20, q20, e20, none⟩, ⟨some (t5 + 7), .convert I I2 (.tmp (t5 + 6)), y21, q21, e21, none⟩,
      ⟨some (t5 + 8), .call { callee := .value (.func FU), args := #[.tmp (t5 + 2), .tmp (t5 + 7)], argTypes := at2 }, y22, q22, e22, none⟩, ⟨some 1, .assign (.tmp (t5 + 8)), y23, q23, e23, none⟩] 8 = true) :
    KWB RT P N nt ver false K lo t s (.scope ((Code.region r #[⟨some t1, .move (.tmp s), y1, q1, e1, none⟩, ⟨some (t1 + 1), .nilCheck (.tmp t1), y2, q2, e2, none⟩, ⟨some (t1 + 2), .fieldAddr T (.tmp (t1 + 1)) k', y3, q3, e3, none⟩,
        ⟨some (t1 + 3), .load U (.tmp (t1 + 2)), y4, q4, e4, none⟩, ⟨some v, .assign (.tmp (t1 + 3)), y5, q5, e5, none⟩] false).seq
      ((Code.region r2 #[⟨some t2, .move (.tmp 1), y6, q6, e6, none⟩, ⟨some (t2 + 1), .call { callee := .value (.func FU), args := #[.tmp t2, .const xk], argTypes := at1 }, y7, q7, e7, none⟩, ⟨some 1, .assign (.tmp (t2 + 1)), y8, q8, e8, none⟩] false).seq
      ((Code.region r3 #[⟨some sz, .assign (.const (.bool false)), y9, q9, e9, none⟩] false).seq
      ((Code.region r4 #[⟨some t3, .move (.tmp 1), y10, q10, e10, none⟩, ⟨some (t3 + 1), .call { callee := .builtin .len, args := #[.tmp t3], argTypes := #[UB] }, y11, q11, e11, none⟩, ⟨some la, .assign (.tmp (t3 + 1)), y12, q12, e12, none⟩] false).seq
      ((Code.label l).seq (ct ((Code.region r5 #[⟨some t4, .move (.tmp sz), y13, q13, e13, none⟩, ⟨some (t4 + 1), .unOp .not J (.tmp t4), y24, q24, e24, none⟩] false).seq
        (.cond (.tmp (t4 + 1)) ((Code.region r6 #[⟨some t5, .move (.tmp 1), y14, q14, e14, none⟩, ⟨some (t5 + 1), .move (.tmp la), y15, q15, e15, none⟩, ⟨some (t5 + 2), .slice UB (.tmp t5) none (some (.tmp (t5 + 1))) none, y16, q16, e16, none⟩,
      ⟨some (t5 + 3), .move (.tmp 1), y17, q17, e17, none⟩, ⟨some (t5 + 4), .move (.tmp la), y18, q18, e18, none⟩, ⟨some (t5 + 5), .slice UB (.tmp (t5 + 3)) (some (.tmp (t5 + 4))) none none, y19, q19, e19, none⟩,
      ⟨some (t5 + 6), .call { callee := .builtin .len, args := #[.tmp (t5 + 5)], argTypes := #[UB] }, y20, q20, e20, none⟩, ⟨some (t5 + 7), .convert I I2 (.tmp (t5 + 6)), y21, q21, e21, none⟩,
      ⟨some (t5 + 8), .call { callee := .value (.func FU), args := #[.tmp (t5 + 2), .tmp (t5 + 7)], argTypes := at2 }, y22, q22, e22, none⟩, ⟨some 1, .assign (.tmp (t5 + 8)), y23, q23, e23, none⟩] true).seq
          ((Code.region r7 #[⟨some sz, .assign (.const (.bool true)), y25, q25, e25, none⟩] false).seq (.goto l))) .skip))))))))) off f kt := by
  intro w0 b o gv hrep a w bs z0 Q hst hh hz0 hvz0 hl hq
  obtain ⟨x, hc, hct⟩ := hx w0 b (o + off) gv hrep
  generalize hX : ap ver true f gv = X at *
  obtain ⟨d1, d2, d3, d4, d5, d6, d7, d8, d9, d10, d11, d12⟩ := hd
  obtain ⟨c1, c2, c3, c4, c5, c6, c7, c8, c9, c10, c11, c12⟩ := hd2
  have g1 := hD.dOne; have g2 := hD.dLo; have g3 := hD.dT; have g4 := hD.dN
  have hk' : KOK N lo' t' K := fun p hp => ⟨(hk p hp).1, (hk p hp).2.elim (fun h => .inl (by omega)) (fun h => .inr ⟨h.1, by omega⟩)⟩
  unfold tagB at hl hq
  simp only [List.length_append] at hl
  refine wp_scope_jumps l (fun a' w' => St nt w0 a' w' (bs ++ (uv kt ++ uv X.length)) ∧ Fr N lo t 1 a a' ∧ aget a' v = x ∧ aget a' sz = .bool true) (fun _ _ => 0) find_label4 ?_ ?_
  · refine wp_seq (reg_load (x0 := nt) (lo := lo) hT hU hst.size hh.head (x := x) (by rw [Addr.add_lit]; exact hst.cell hc) ⟨hD.dT, d1, d2, d3, d4⟩ fun a1 hfr1 hx1 => ?_)
    have hst1 := hst.fr hfr1 hD
    have hone : aget a1 1 = aget a 1 := hfr1.same 1 (by omega) (.inl hD.dOne)
    have hK1 : Holds K a1 := hh.tail.fr hk (hfr1.to1 hD)
    refine wp_seq (kw_const (lo := lo') (t := t) he hCk ⟨hD'.dOne, hD'.dLo, hD.dT, hD.dN⟩ ⟨d5, d6⟩ a1 w bs z0 _ hst1 hK1 hz0 (by rw [hone]; exact hvz0) (by omega) fun a2 w2 hst2 hfr2' _ _ _ => ?_)
    have hfr2 : Fr N lo t 1 a1 a2 := hfr2'.mono c11 (Nat.le_refl _)
    have hv1 : v ≠ 1 := by omega
    have hx2 : aget a2 v = x := (hfr2'.same v hv1 (.inl c8)).trans hx1
    have hK2 : Holds K a2 := hK1.fr hk hfr2
    refine wp_seq (wp_reg (wl_assign_c (wpList_nil ?_)))
    have hf3 : Fr N lo t nt a2 (a2.put (some sz) (.bool false)) := (Fr.refl N lo t nt a2).put _ _ (by omega)
    have hz3 : aget (a2.put (some sz) (.bool false)) sz = .bool false := aget_put_same _ _ _ (by rw [hst2.size]; omega)
    have hx3 : aget (a2.put (some sz) (.bool false)) v = x := (aget_put_other _ _ _ _ (by omega)).trans hx2
    generalize (a2.put (some sz) (.bool false)) = a3 at *
    have hst3 := hst2.fr hf3 hD
    have hK3 := hK2.fr hk (hf3.to1 hD)
    have hne : bs ++ uv kt ≠ [] := fun h => hnk (List.append_eq_nil_iff.1 h).2
    obtain ⟨g3', cap3, hv3, hc3⟩ := own_slice hst3.own hne
    simp only [Exit.then]
    refine wp_seq (wp_reg ?_)
    refine wl_move hv3 ?_
    refine wl_len_slice hB.under (aget_put_same _ _ _ (by rw [hst3.size]; omega)) ?_
    refine wl_assign (aget_put_same _ _ _ (by simp only [size_put, hst3.size]; omega)) ?_
    refine wpList_nil ?_
    have hf4 : Fr N lo t nt a3 (((a3.put (some t3) (.slice (some ⟨g3', 0, none⟩) (bs ++ uv kt).length cap3)).put (some (t3 + 1)) (.int .i64 (bs ++ uv kt).length)).put (some la) (.int .i64 (bs ++ uv kt).length)) := (((Fr.refl N lo t nt a3).put _ _ (by omega)).put _ _ (by omega)).put _ _ (by omega)
    have hl4 : aget (((a3.put (some t3) (.slice (some ⟨g3', 0, none⟩) (bs ++ uv kt).length cap3)).put (some (t3 + 1)) (.int .i64 (bs ++ uv kt).length)).put (some la) (.int .i64 (bs ++ uv kt).length)) la = .int .i64 (bs ++ uv kt).length := aget_put_same _ _ _ (by simp only [size_put, hst3.size]; omega)
    have hz4 : aget (((a3.put (some t3) (.slice (some ⟨g3', 0, none⟩) (bs ++ uv kt).length cap3)).put (some (t3 + 1)) (.int .i64 (bs ++ uv kt).length)).put (some la) (.int .i64 (bs ++ uv kt).length)) sz = .bool false := by rw [aget_put_other _ _ _ _ (by omega), aget_put_other _ _ _ _ (by omega), aget_put_other _ _ _ _ (by omega)]; exact hz3
    have hx4 : aget (((a3.put (some t3) (.slice (some ⟨g3', 0, none⟩) (bs ++ uv kt).length cap3)).put (some (t3 + 1)) (.int .i64 (bs ++ uv kt).length)).put (some la) (.int .i64 (bs ++ uv kt).length)) v = x := by rw [aget_put_other _ _ _ _ (by omega), aget_put_other _ _ _ _ (by omega), aget_put_other _ _ _ _ (by omega)]; exact hx3
    generalize (((a3.put (some t3) (.slice (some ⟨g3', 0, none⟩) (bs ++ uv kt).length cap3)).put (some (t3 + 1)) (.int .i64 (bs ++ uv kt).length)).put (some la) (.int .i64 (bs ++ uv kt).length)) = a4 at *
    have hst4 := hst3.fr hf4 hD
    have hK4 := hK3.fr hk (hf4.to1 hD)
    simp only [Exit.then]
    refine wp_seq (wp_label ?_)
    simp only [Exit.then]
    refine hct a4 w2 (bs ++ uv kt) _ _ hst4 (hK4.cons hx4) (by simp only [List.length_append]; omega) fun a5 w5 hst5 hf5 => ?_
    have hz5 : aget a5 sz = .bool false := (hf5.same sz (by omega) (.inl c9)).trans hz4
    have hl5 : aget a5 la = .int .i64 (bs ++ uv kt).length := (hf5.same la (by omega) (.inl c10)).trans hl4
    have hx5 : aget a5 v = x := (hf5.same v hv1 (.inl c8)).trans hx4
    have hK5 := hK4.fr hk' hf5
    refine wp_seq (wp_reg (wl_move hz5 (wl_not (aget_put_same _ _ _ (by rw [hst5.size]; omega)) (wpList_nil ?_))))
    have hf6 : Fr N lo t nt a5 ((a5.put (some t4) (.bool false)).put (some (t4 + 1)) (.bool (!false))) := ((Fr.refl N lo t nt a5).put _ _ (by omega)).put _ _ (by omega)
    have hn6 : aget ((a5.put (some t4) (.bool false)).put (some (t4 + 1)) (.bool (!false))) (t4 + 1) = .bool true := aget_put_same _ _ _ (by simp only [size_put, hst5.size]; omega)
    have hl6 : aget ((a5.put (some t4) (.bool false)).put (some (t4 + 1)) (.bool (!false))) la = .int .i64 (bs ++ uv kt).length := by rw [aget_put_other _ _ _ _ (by omega), aget_put_other _ _ _ _ (by omega)]; exact hl5
    have hx6 : aget ((a5.put (some t4) (.bool false)).put (some (t4 + 1)) (.bool (!false))) v = x := by rw [aget_put_other _ _ _ _ (by omega), aget_put_other _ _ _ _ (by omega)]; exact hx5
    generalize ((a5.put (some t4) (.bool false)).put (some (t4 + 1)) (.bool (!false))) = a6 at *
    have hst6 := hst5.fr hf6 hD
    have hK6 := hK5.fr hk (hf6.to1 hD)
    simp only [Exit.then]
    refine wp_cond_true hn6 ?_
    have hne6 : (bs ++ uv kt) ++ X ≠ [] := fun h => hne (List.append_eq_nil_iff.1 h).1
    obtain ⟨g6, cap6, hv6, hc6⟩ := own_slice hst6.own hne6
    have hN6 := hst6.size
    refine wp_seq (wp_region_heads 8 hm hBh (by simp) ?_)
    have y0 : ∀ (A : Act) (o : Oper) (v : Value) (ops : Array Oper), o.guard = none → (∀ w, (execOp A.eval o).run P w = .ok (.value v) w) → Yields P ops o v A := fun A o v ops hg hr => .inl ⟨by simp [Region.wanted, hg], hr⟩
    have m0 : ∀ (A : Act) (d s' : Nat) (vv : Value) (y : Nat) (q : String) (ee : Array Edge), aget A s' = vv → ∀ w, (execOp A.eval ⟨some d, .move (.tmp s'), y, q, ee, none⟩).run P w = .ok (.value vv) w := by
      intro A d s' vv y q ee hA w
      simp [execOp, aget_eval, hA]
    refine ⟨.slice (some ⟨g6, 0, none⟩) ((bs ++ uv kt) ++ X).length cap6, y0 _ _ _ _ rfl (m0 _ _ _ _ _ _ _ hv6), ?_⟩
    refine ⟨.int .i64 (bs ++ uv kt).length, y0 _ _ _ _ rfl (m0 _ _ _ _ _ _ _ ((aget_put_other _ _ _ _ (by omega)).trans hl6)), ?_⟩
    refine ⟨.slice (some ⟨g6, 0, none⟩) (bs ++ uv kt).length cap6, y0 _ _ _ _ rfl (run_cut_to hB ((aget_put_other _ _ _ _ (by omega)).trans (aget_put_same _ _ _ (by omega))) (aget_put_same _ _ _ (by simp only [size_put]; omega)) (Nat.le_trans (by simp only [List.length_append]; omega) hc6)), ?_⟩
    refine ⟨.slice (some ⟨g6, 0, none⟩) ((bs ++ uv kt) ++ X).length cap6, y0 _ _ _ _ rfl (m0 _ _ _ _ _ _ _ (by rw [aget_put_other _ _ _ _ (by omega), aget_put_other _ _ _ _ (by omega), aget_put_other _ _ _ _ (by omega)]; exact hv6)), ?_⟩
    refine ⟨.int .i64 (bs ++ uv kt).length, y0 _ _ _ _ rfl (m0 _ _ _ _ _ _ _ (by rw [aget_put_other _ _ _ _ (by omega), aget_put_other _ _ _ _ (by omega), aget_put_other _ _ _ _ (by omega), aget_put_other _ _ _ _ (by omega)]; exact hl6)), ?_⟩
    obtain ⟨ad7, c7', hrun7⟩ := run_cut_from (P := P) (UB := UB) (d := t5 + 5) (s := t5 + 3) (h := t5 + 4) (y := y19) (q := q19) (ee := e19) (A := Act.put (Act.put (Act.put (Act.put (Act.put a6 (some t5) (.slice (some ⟨g6, 0, none⟩) ((bs ++ uv kt) ++ X).length cap6)) (some (t5 + 1)) (.int .i64 (bs ++ uv kt).length)) (some (t5 + 2)) (.slice (some ⟨g6, 0, none⟩) (bs ++ uv kt).length cap6)) (some (t5 + 3)) (.slice (some ⟨g6, 0, none⟩) ((bs ++ uv kt) ++ X).length cap6)) (some (t5 + 4)) (.int .i64 (bs ++ uv kt).length))
      (g := g6) (n := ((bs ++ uv kt) ++ X).length) (cap := cap6) (L := (bs ++ uv kt).length) hB ((aget_put_other _ _ _ _ (by omega)).trans (aget_put_same _ _ _ (by simp only [size_put]; omega))) (aget_put_same _ _ _ (by simp only [size_put]; omega)) (by simp only [List.length_append]; omega)
    have hsub : ((bs ++ uv kt) ++ X).length - (bs ++ uv kt).length = X.length := by simp only [List.length_append]; omega
    rw [hsub] at hrun7
    refine ⟨.slice ad7 X.length c7', y0 _ _ _ _ rfl hrun7, ?_⟩
    have len0 : ∀ (A : Act) (ad : Option Addr) (n c : Nat), aget A (t5 + 5) = .slice ad n c → ∀ w, (execOp A.eval ⟨some (t5 + 6), .call { callee := .builtin .len, args := #[.tmp (t5 + 5)], argTypes := #[UB] }, y20, q20, e20, none⟩).run P w = .ok (.value (.int .i64 n)) w := by
      intro A ad n c hA w
      simp [execOp, resolve, invoke, builtin, Builtin.len_, aget_eval, hA, run_underlying hB.under, goInt]
    refine ⟨.int .i64 X.length, y0 _ _ _ _ rfl (len0 _ _ _ _ (aget_put_same _ _ _ (by simp only [size_put]; omega))), ?_⟩
    have conv0 : ∀ (A : Act) (n : Nat), n ≤ 4294967295 → aget A (t5 + 6) = .int .i64 n → ∀ w, (execOp A.eval ⟨some (t5 + 7), .convert I I2 (.tmp (t5 + 6)), y21, q21, e21, none⟩).run P w = .ok (.value (.int .u32 n)) w := by
      intro A n hn hA w
      have e2 : A.eval (.tmp (t5 + 6)) = .int .i64 n := hA
      have e3 : IntKind.u32.wrap (n : Int) = n := by rw [IntKind.wrap_u32]; omega
      simp [execOp, e2, convert, run_underlying hI, run_underlying hI2, Conv.intToInt, e3]
    refine ⟨.int .u32 X.length, y0 _ _ _ _ rfl (conv0 _ X.length (by omega) (aget_put_same _ _ _ (by simp only [size_put]; omega))), ?_⟩
    have hf7 : Fr N lo t nt a6 (Act.put (Act.put (Act.put (Act.put (Act.put (Act.put (Act.put (Act.put a6 (some t5) (.slice (some ⟨g6, 0, none⟩) ((bs ++ uv kt) ++ X).length cap6)) (some (t5 + 1)) (.int .i64 (bs ++ uv kt).length)) (some (t5 + 2)) (.slice (some ⟨g6, 0, none⟩) (bs ++ uv kt).length cap6)) (some (t5 + 3)) (.slice (some ⟨g6, 0, none⟩) ((bs ++ uv kt) ++ X).length cap6)) (some (t5 + 4)) (.int .i64 (bs ++ uv kt).length)) (some (t5 + 5)) (.slice ad7 X.length c7')) (some (t5 + 6)) (.int .i64 X.length)) (some (t5 + 7)) (.int .u32 X.length)) :=
      ((((((((Fr.refl N lo t nt a6).put _ _ (by omega)).put _ _ (by omega)).put _ _ (by omega)).put _ _ (by omega)).put _ _ (by omega)).put _ _ (by omega)).put _ _ (by omega)).put _ _ (by omega)
    have hp7 : aget (Act.put (Act.put (Act.put (Act.put (Act.put (Act.put (Act.put (Act.put a6 (some t5) (.slice (some ⟨g6, 0, none⟩) ((bs ++ uv kt) ++ X).length cap6)) (some (t5 + 1)) (.int .i64 (bs ++ uv kt).length)) (some (t5 + 2)) (.slice (some ⟨g6, 0, none⟩) (bs ++ uv kt).length cap6)) (some (t5 + 3)) (.slice (some ⟨g6, 0, none⟩) ((bs ++ uv kt) ++ X).length cap6)) (some (t5 + 4)) (.int .i64 (bs ++ uv kt).length)) (some (t5 + 5)) (.slice ad7 X.length c7')) (some (t5 + 6)) (.int .i64 X.length)) (some (t5 + 7)) (.int .u32 X.length)) (t5 + 2) = .slice (some ⟨g6, 0, none⟩) (bs ++ uv kt).length cap6 := by
      rw [aget_put_other _ _ _ _ (by omega), aget_put_other _ _ _ _ (by omega), aget_put_other _ _ _ _ (by omega), aget_put_other _ _ _ _ (by omega), aget_put_other _ _ _ _ (by omega)]
      exact aget_put_same _ _ _ (by simp only [size_put]; omega)
    have hn7 : aget (Act.put (Act.put (Act.put (Act.put (Act.put (Act.put (Act.put (Act.put a6 (some t5) (.slice (some ⟨g6, 0, none⟩) ((bs ++ uv kt) ++ X).length cap6)) (some (t5 + 1)) (.int .i64 (bs ++ uv kt).length)) (some (t5 + 2)) (.slice (some ⟨g6, 0, none⟩) (bs ++ uv kt).length cap6)) (some (t5 + 3)) (.slice (some ⟨g6, 0, none⟩) ((bs ++ uv kt) ++ X).length cap6)) (some (t5 + 4)) (.int .i64 (bs ++ uv kt).length)) (some (t5 + 5)) (.slice ad7 X.length c7')) (some (t5 + 6)) (.int .i64 X.length)) (some (t5 + 7)) (.int .u32 X.length)) (t5 + 7) = .int .u32 X.length := aget_put_same _ _ _ (by simp only [size_put]; omega)
    have hx7 : aget (Act.put (Act.put (Act.put (Act.put (Act.put (Act.put (Act.put (Act.put a6 (some t5) (.slice (some ⟨g6, 0, none⟩) ((bs ++ uv kt) ++ X).length cap6)) (some (t5 + 1)) (.int .i64 (bs ++ uv kt).length)) (some (t5 + 2)) (.slice (some ⟨g6, 0, none⟩) (bs ++ uv kt).length cap6)) (some (t5 + 3)) (.slice (some ⟨g6, 0, none⟩) ((bs ++ uv kt) ++ X).length cap6)) (some (t5 + 4)) (.int .i64 (bs ++ uv kt).length)) (some (t5 + 5)) (.slice ad7 X.length c7')) (some (t5 + 6)) (.int .i64 X.length)) (some (t5 + 7)) (.int .u32 X.length)) v = x := by
      rw [aget_put_other _ _ _ _ (by omega), aget_put_other _ _ _ _ (by omega), aget_put_other _ _ _ _ (by omega), aget_put_other _ _ _ _ (by omega), aget_put_other _ _ _ _ (by omega), aget_put_other _ _ _ _ (by omega), aget_put_other _ _ _ _ (by omega), aget_put_other _ _ _ _ (by omega)]
      exact hx6
    show wpList _ _ _ _ (Act.put (Act.put (Act.put (Act.put (Act.put (Act.put (Act.put (Act.put a6 (some t5) (.slice (some ⟨g6, 0, none⟩) ((bs ++ uv kt) ++ X).length cap6)) (some (t5 + 1)) (.int .i64 (bs ++ uv kt).length)) (some (t5 + 2)) (.slice (some ⟨g6, 0, none⟩) (bs ++ uv kt).length cap6)) (some (t5 + 3)) (.slice (some ⟨g6, 0, none⟩) ((bs ++ uv kt) ++ X).length cap6)) (some (t5 + 4)) (.int .i64 (bs ++ uv kt).length)) (some (t5 + 5)) (.slice ad7 X.length c7')) (some (t5 + 6)) (.int .i64 X.length)) (some (t5 + 7)) (.int .u32 X.length)) _
    generalize (Act.put (Act.put (Act.put (Act.put (Act.put (Act.put (Act.put (Act.put a6 (some t5) (.slice (some ⟨g6, 0, none⟩) ((bs ++ uv kt) ++ X).length cap6)) (some (t5 + 1)) (.int .i64 (bs ++ uv kt).length)) (some (t5 + 2)) (.slice (some ⟨g6, 0, none⟩) (bs ++ uv kt).length cap6)) (some (t5 + 3)) (.slice (some ⟨g6, 0, none⟩) ((bs ++ uv kt) ++ X).length cap6)) (some (t5 + 4)) (.int .i64 (bs ++ uv kt).length)) (some (t5 + 5)) (.slice ad7 X.length c7')) (some (t5 + 6)) (.int .i64 X.length)) (some (t5 + 7)) (.int .u32 X.length)) = a7 at *
    have hst7 := hst6.fr hf7 hD
    have hv7 : aget a7 1 = .slice (some ⟨g6, 0, none⟩) ((bs ++ uv kt) ++ X).length cap6 := (hf7.same 1 (by omega) (.inl hD.dOne)).trans hv6
    have hcut : Own w0.heap.size w5.drew (.slice (some ⟨g6, 0, none⟩) (bs ++ uv kt).length cap6) (bs ++ uv kt) := by
      have := hst7.own
      rw [hv7] at this
      exact (own_cut this).drew
    have hbel7 : Below w0.heap.size w0 w5.drew := hst7.below.trans ⟨rfl, rfl, rfl, Nat.le_refl _, fun _ _ => rfl⟩
    refine wl_call (R := Appended w0.heap.size w5.drew ((bs ++ uv kt) ++ uv X.length)) he ?_ ?_
    · simp only [List.map_toArray, List.map_cons, List.map_nil, aget_eval]
      rw [hp7, hn7]
      exact hUv X.length (by omega) w0.heap.size w5.drew _ _ hcut hbel7.size (by simp only [List.length_append]; omega)
    rintro en w8 ⟨v8, rfl, hown8, hbel8⟩
    refine ⟨v8, rfl, ?_⟩
    refine wl_assign (aget_put_same _ _ _ (by have := hst7.size; omega)) ?_
    refine wpList_nil (And.intro rfl ?_)
    have hf8 : Fr N lo t 1 a7 ((a7.put (some (t5 + 8)) v8).put (some 1) v8) := ((Fr.refl N lo t 1 a7).put _ _ (by omega)).put _ _ (by omega)
    have h81 : aget ((a7.put (some (t5 + 8)) v8).put (some 1) v8) 1 = v8 := aget_put_same _ _ _ (by simp only [size_put, hst7.size]; omega)
    have hx8 : aget ((a7.put (some (t5 + 8)) v8).put (some 1) v8) v = x := by rw [aget_put_other _ _ _ _ (by omega), aget_put_other _ _ _ _ (by omega)]; exact hx7
    generalize ((a7.put (some (t5 + 8)) v8).put (some 1) v8) = a8 at *
    have hst8 : St nt w0 a8 w8 (bs ++ (uv kt ++ uv X.length)) := ⟨hf8.size.trans hst7.size, by rw [h81, ← List.append_assoc]; exact hown8, hbel7.trans hbel8⟩
    simp only [Exit.then]
    refine wp_seq (wp_reg (wl_assign_c (wpList_nil ?_)))
    have hf9 : Fr N lo t nt a8 (a8.put (some sz) (.bool true)) := (Fr.refl N lo t nt a8).put _ _ (by omega)
    simp only [Exit.then]
    refine wp_goto ⟨rfl, hst8.fr hf9 hD, ?_, (aget_put_other _ _ _ _ (by omega)).trans hx8, aget_put_same _ _ _ (by rw [hst8.size]; omega)⟩
    exact ((((((((hfr1.to1 hD).trans hfr2).trans (hf3.to1 hD)).trans (hf4.to1 hD)).trans (hf5.mono c11 c12)).trans (hf6.to1 hD)).trans (hf7.to1 hD)).trans hf8).trans (hf9.to1 hD)
  · rintro a1 w1 ⟨hst1, hf1, hx1, hz1⟩
    refine wp_seq (wp_skip ?_)
    simp only [Exit.then]
    have hK1 : Holds K a1 := hh.tail.fr hk hf1
    refine hct a1 w1 _ _ _ hst1 (hK1.cons hx1) (by simp only [List.length_append]; omega) fun a2 w2 hst2 hf2 => ?_
    have hz2 : aget a2 sz = .bool true := (hf2.same sz (by omega) (.inl c9)).trans hz1
    refine wp_seq (wp_reg (wl_move hz2 (wl_not (aget_put_same _ _ _ (by rw [hst2.size]; omega)) (wpList_nil ?_))))
    have hf3 : Fr N lo t nt a2 ((a2.put (some t4) (.bool true)).put (some (t4 + 1)) (.bool (!true))) := ((Fr.refl N lo t nt a2).put _ _ (by omega)).put _ _ (by omega)
    simp only [Exit.then]
    refine wp_cond_false (aget_put_same _ _ _ (by simp only [size_put, hst2.size]; omega)) (wp_skip ?_)
    refine hq _ w2 ?_ ((hf1.trans (hf2.mono c11 c12)).trans (hf3.to1 hD)) (fun h => by cases h)
    have := hst2.fr hf3 hD
    simpa only [List.append_assoc] using this
end
end Go.Proofs.YtmpilpgabelmiaaGreatDoor

/- Known tags, written: which of them, how many. -/
namespace Go.Proofs.YtmpilpgabelmiaaGreatDoor
open Go Go.RowKit
set_option linter.unusedVariables false

/-- A number of a tag, in a cell. -/
def kV (k : Nat) : Value := .int .u32 k
/-- The numbers of the tags that are to be written, in memory of the call's own. -/
def TE (w0 w : World) (v : Value) (ks : List Nat) : Prop := w.ownsRow w0.heap.size 66 1 v ks.length (ks.map kV)
def Parted (x v : Value) : Prop := ∀ z, v.ownBlock = some z → x.ownBlock ≠ some z
/-- The types of the numbers. -/
structure U32T (P : Program) (t : TypeId) : Prop where
  under : P.underlying t = some (.slice 66)
  info : ∃ (i : TypeInfo) (z : Value), P.info? 66 = some i ∧ i.zero = some z ∧ i.size = 1 ∧ i.bytes = 4 ∧ z.cells.size = 1
theorem te_nil (w0 w : World) : TE w0 w (.slice none 0 0) [] := World.ownsRow_nil w _ _ 1
theorem te_block {w0 w w' : World} {v : Value} {ks : List Nat} (h : TE w0 w v ks) (hb : ∀ z, v.ownBlock = some z → w'.heap[z]? = w.heap[z]?) : TE w0 w' v ks := by
  refine ⟨h.1, ?_⟩
  rcases h.2 with hn | ⟨g, cap, cur, rfl, h1, h2, rest⟩
  · exact .inl hn
  · exact .inr ⟨g, cap, cur, rfl, h1, (hb g rfl).trans h2, rest⟩

section
variable {RT : RTags} {P : Program} {N nt : Nat} {w0 : World} {K : Slots} {lo t : Nat} {ver : Int}
/-- The code that asks whether a known tag is as it is by default. -/
def KCond (RT : RTags) (P : Program) (N nt : Nat) (ver : Int) (K : Slots) (t s : Nat) (c : Code) (tc off : Nat) (d : Int) (f : Sch) : Prop :=
  ∀ (w0 : World) (b o : Nat) (v : GV), Rep RT [] w0 ver true f b (o + off) v → ∀ (a : Act) (w : World) (bs : List UInt8) (Q : Exit → Act → World → Prop), St nt w0 a w bs → Holds ((s, .pointer (some ⟨b, o, none⟩)) :: K) a →
    (∀ a', Fr N N t nt a a' → aget a' tc = .bool (!usual f d v) → Q .normal a' w) → c.wp P Q a w
/-- The code that lays a known tag's number behind the others', where the tag is not as by default. -/
def KChk (RT : RTags) (P : Program) (N nt : Nat) (ver : Int) (K : Slots) (lo t s te : Nat) (c : Code) (off : Nat) (d : Int) (f : Sch) (k : Nat) : Prop :=
  ∀ (w0 : World) (b o : Nat) (v : GV), Rep RT [] w0 ver true f b (o + off) v → ∀ (a : Act) (w : World) (bs : List UInt8) (ks : List Nat) (Q : Exit → Act → World → Prop), St nt w0 a w bs → Holds ((s, .pointer (some ⟨b, o, none⟩)) :: K) a →
    TE w0 w (aget a te) ks → ks.length ≤ 1000 → Parted (aget a 1) (aget a te) →
    (∀ a' w', St nt w0 a' w' bs → Fr N lo t nt a a' → TE w0 w' (aget a' te) (ks ++ if usual f d v then [] else [k]) → Parted (aget a' 1) (aget a' te) → Q .normal a' w') → c.wp P Q a w
theorem chk_of {s te t2 tc U r y1 y2 y3 y4 : Nat} {q1 q2 q3 q4 : String} {e1 e2 e3 e4 : Array Edge} {c : Code} {off k : Nat} {d : Int} {f : Sch} {kI : Int} (hkI : kI = (k : Nat)) (hU : U32T P U) (hD : Dims N nt lo t) (hd : t ≤ t2 ∧ t2 + 2 < nt ∧ lo ≤ te ∧ te < N)
    (h : KCond RT P N nt ver K t s c tc off d f) :
    KChk RT P N nt ver K lo t s te (c.seq (.cond (.tmp tc) (Code.region r #[⟨some t2, .move (.tmp te), y1, q1, e1, none⟩, ⟨some (t2 + 1), .buildSlice U 1 #[(0, .const (.int .u32 kI))], y2, q2, e2, none⟩,
      ⟨some (t2 + 2), .call { callee := .builtin .append, args := #[.tmp t2, .tmp (t2 + 1)], argTypes := #[U, U] }, y3, q3, e3, none⟩, ⟨some te, .assign (.tmp (t2 + 2)), y4, q4, e4, none⟩] false) .skip)) off d f k := by
  subst hkI
  intro w0 b o v hrep a w bs ks Q hst hh hte hks hap hq
  obtain ⟨d1, d2, d3, d4⟩ := hd
  have g1 := hD.dOne; have g2 := hD.dLo; have g3 := hD.dT; have g4 := hD.dN
  refine wp_seq (h w0 b o v hrep a w bs _ hst hh fun a1 hf1 hx1 => ?_)
  have hf1' : Fr N lo t nt a a1 := hf1.mono hD.dLo (Nat.le_refl _)
  have hst1 := hst.fr hf1' hD
  have h1 : aget a1 1 = aget a 1 := hf1.same 1 (by omega) (.inl (by omega))
  have ht1 : aget a1 te = aget a te := hf1.same te (by omega) (.inl d4)
  have hN1 := hst1.size
  simp only [Exit.then]
  cases hu : usual f d v with
  | true =>
    rw [hu] at hx1
    refine wp_cond_false hx1 (wp_skip (hq a1 w hst1 hf1' ?_ (by rw [h1, ht1]; exact hap)))
    rw [ht1, hu]
    simpa using hte
  | false =>
    rw [hu] at hx1
    refine wp_cond_true hx1 (wp_reg ?_)
    obtain ⟨i, z, i1, i2, i3, i4, i5⟩ := hU.info
    refine wl_move ht1 ?_
    refine wpList_buildFlat rfl U 66 1 _ rfl .u32 [(k : Int)] hU.under (by rw [i1]; simp [i3]) (by rw [i1]; simp [i2]) rfl (by omega) (by decide) rfl ?_
    have hbs := hst1.below.size
    have hte0 : (w.alloc (.cells ([(k : Int)].map (Value.int .u32)).toArray 66)).ownsRow w0.heap.size 66 1 (aget a te) ks.length (ks.map kV) := World.ownsRow.alloc hte _
    have hA2 : aget ((a1.put (some t2) (aget a te)).put (some (t2 + 1)) (.slice (some ⟨w.heap.size, 0, none⟩) 1 1)) t2 = aget a te := (aget_put_other _ _ _ _ (by omega)).trans (aget_put_same _ _ _ (by omega))
    have hB2 : aget ((a1.put (some t2) (aget a te)).put (some (t2 + 1)) (.slice (some ⟨w.heap.size, 0, none⟩) 1 1)) (t2 + 1) = .slice (some ⟨w.heap.size, 0, none⟩) 1 1 := aget_put_same _ _ _ (by simp only [size_put]; omega)
    have hf2 : Fr N lo t nt a1 ((a1.put (some t2) (aget a te)).put (some (t2 + 1)) (.slice (some ⟨w.heap.size, 0, none⟩) 1 1)) := ((Fr.refl N lo t nt a1).put _ _ (by omega)).put _ _ (by omega)
    have hk0 : (w.alloc (.cells ([(k : Int)].map (Value.int .u32)).toArray 66)).heap.size = w.heap.size + 1 := by simp
    show wpList _ _ _ _ ((a1.put (some t2) (aget a te)).put (some (t2 + 1)) (.slice (some ⟨w.heap.size, 0, none⟩) 1 1)) _
    generalize ((a1.put (some t2) (aget a te)).put (some (t2 + 1)) (.slice (some ⟨w.heap.size, 0, none⟩) 1 1)) = a2 at *
    have hst2 := hst1.fr hf2 hD
    have h2 : aget a2 1 = aget a 1 := (hf2.same 1 (by omega) (.inl g1)).trans h1
    refine wpl_append_srcZ rfl (.tmp t2) (.tmp (t2 + 1)) U U rfl w0.heap.size 66 i z 1 4 hU.under i1 i2 i3 i4 i5 (aget a te) ks.length (ks.map kV) hA2 hte0 (.slice (some ⟨w.heap.size, 0, none⟩) 1 1) 1 [kV k] hB2
      (Src.ofSlice _ hU.under ⟨w.heap.size, 0, none⟩ 1 1 [kV k] rfl ?_ ?_) (by unfold maxLen; omega) (by omega) (by omega) ?_
    · intro j u hj
      rw [Addr.add_lit, (Blk.alloc_new w ([(k : Int)].map (Value.int .u32)) _).cell]
      simpa [kV] using hj
    · intro u hu
      rw [List.mem_singleton] at hu
      subst hu
      rfl
    intro v' w' hown' hg hnew
    refine wl_assign (aget_put_same _ _ _ (by have := hst2.size; omega)) ?_
    have hf3 : Fr N lo t nt a2 ((a2.put (some (t2 + 2)) v').put (some te) v') := ((Fr.refl N lo t nt a2).put _ _ (by omega)).put _ _ (by omega)
    have hte3 : aget ((a2.put (some (t2 + 2)) v').put (some te) v') te = v' := aget_put_same _ _ _ (by have := hst2.size; simp only [size_put]; omega)
    refine wpList_nil (hq ((a2.put (some (t2 + 2)) v').put (some te) v') w' ?_ ((hf1'.trans hf2).trans hf3) ?_ ?_)
    · refine ⟨hf3.size.trans hst2.size, ?_, ?_⟩
      · rw [hf3.same 1 (by omega) (.inl g1)]
        refine World.ownsRow.kept (World.ownsRow.alloc hst2.own _) hg ?_
        rw [h2]
        cases hb : (aget a te).ownBlock with
        | none =>
          cases ha : (aget a 1).ownBlock with
          | none => exact .inl rfl
          | some g => exact .inr (by simp)
        | some z' => exact .inr (hap z' hb)
      · exact (hst2.below.alloc hbs _).grown hg (by omega) (fun j hj => by have := (World.ownsRow.lt hte j hj).1; omega)
    · rw [hte3, hu]
      unfold TE
      simpa using hown'
    · rw [hte3, hf3.same 1 (by omega) (.inl g1), h2]
      intro z' hz' e
      rcases hnew z' hz' with h3 | h3
      · exact hap z' h3 e
      · have := (World.ownsRow.lt hst.own z' e).2
        omega
end
end Go.Proofs.YtmpilpgabelmiaaGreatDoor

/- Known tags, written: is a field as it is by default? -/
namespace Go.Proofs.YtmpilpgabelmiaaGreatDoor
open Go Go.RowKit
set_option linter.unusedVariables false

section
variable {RT : RTags} {P : Program} {N nt : Nat} {w0 : World} {K : Slots} {lo t : Nat} {ver : Int}
theorem kcond_nstr {s t1 T k U J J2 off r y1 y2 y3 y4 y5 : Nat} {q1 q2 q3 q4 q5 : String} {e1 e2 e3 e4 e5 : Array Edge} {d : Int} (hT : FieldAt P T k off) (hU : OneCell P U) (hJ : P.underlying J = some (.pointer (P.pointee J))) (hd : N ≤ t ∧ t ≤ t1 ∧ t1 + 4 < nt) :
    KCond RT P N nt ver K t s (Code.region r #[⟨some t1, .move (.tmp s), y1, q1, e1, none⟩, ⟨some (t1 + 1), .nilCheck (.tmp t1), y2, q2, e2, none⟩, ⟨some (t1 + 2), .fieldAddr T (.tmp (t1 + 1)) k, y3, q3, e3, none⟩, ⟨some (t1 + 3), .load U (.tmp (t1 + 2)), y4, q4, e4, none⟩,
      ⟨some (t1 + 4), .binOp .neq J (.tmp (t1 + 3)) (.const (.pointer none)) J2, y5, q5, e5, none⟩] false) (t1 + 4) off d (.leaf .nstr) := by
  intro w0 b o v hrep a w bs Q hst hh hq
  obtain ⟨d1, d2, d3⟩ := hd
  have hN := hst.size
  obtain ⟨p, hc, hus⟩ : ∃ p, w0.cell? ⟨b, o + off, none⟩ = some (.pointer p) ∧ (!usual (.leaf .nstr) d v) = p.isSome := by
    cases v <;> simp only [Rep, RepLeaf] at hrep <;> try exact hrep.elim
    · obtain ⟨⟨p, q, h, -⟩, -⟩ := hrep
      exact ⟨_, h, rfl⟩
    · exact ⟨none, hrep, rfl⟩
  refine wp_reg ?_
  refine wl_move hh.head ?_
  refine wl_nilCheck (aget_put_same _ _ _ (by omega)) ?_
  refine wl_fieldAddr hT (aget_put_same _ _ _ (by simp only [size_put]; omega)) ?_
  rw [Addr.add_lit]
  refine wl_load hU (aget_put_same _ _ _ (by simp only [size_put]; omega)) (hst.cell hc) ?_
  refine wl_bin (r := .bool p.isSome) (aget_put_same _ _ _ (by simp only [size_put]; omega)) (by cases p <;> rfl) (by rw [run_neq_pointer_nil _ _ _ hJ]; cases p <;> rfl) ?_
  refine wpList_nil (hq _ ((((((Fr.refl N N t nt a).put _ _ (by omega)).put _ _ (by omega)).put _ _ (by omega)).put _ _ (by omega)).put _ _ (by omega)) ?_)
  rw [hus]
  exact aget_put_same _ _ _ (by simp only [size_put]; omega)
theorem kcond_int {s t1 T k U J J2 off r y1 y2 y3 y4 y5 : Nat} {q1 q2 q3 q4 q5 : String} {e1 e2 e3 e4 e5 : Array Edge} {d d' : Int} {ik : IntKind} {lf : Leaf} (hd0 : d' = d) (hlf : (lf = .i16 ∧ ik = .i16) ∨ (lf = .i64 ∧ ik = .i64)) (hT : FieldAt P T k off) (hU : OneCell P U) (hd : N ≤ t ∧ t ≤ t1 ∧ t1 + 4 < nt) :
    KCond RT P N nt ver K t s (Code.region r #[⟨some t1, .move (.tmp s), y1, q1, e1, none⟩, ⟨some (t1 + 1), .nilCheck (.tmp t1), y2, q2, e2, none⟩, ⟨some (t1 + 2), .fieldAddr T (.tmp (t1 + 1)) k, y3, q3, e3, none⟩, ⟨some (t1 + 3), .load U (.tmp (t1 + 2)), y4, q4, e4, none⟩,
      ⟨some (t1 + 4), .binOp .neq J (.tmp (t1 + 3)) (.const (.int ik d')) J2, y5, q5, e5, none⟩] false) (t1 + 4) off d (.leaf lf) := by
  subst hd0
  intro w0 b o v hrep a w bs Q hst hh hq
  obtain ⟨d1, d2, d3⟩ := hd
  have hN := hst.size
  obtain ⟨n, hc, hus⟩ : ∃ n, w0.cell? ⟨b, o + off, none⟩ = some (.int ik n) ∧ (!usual (.leaf lf) d' v) = !(n == d') := by
    rcases hlf with ⟨rfl, rfl⟩ | ⟨rfl, rfl⟩
    · cases v <;> simp only [Rep, RepLeaf] at hrep <;> try exact hrep.elim
      exact ⟨_, hrep.1, rfl⟩
    · cases v <;> simp only [Rep, RepLeaf] at hrep <;> try exact hrep.elim
      exact ⟨_, hrep, rfl⟩
  refine wp_reg ?_
  refine wl_move hh.head ?_
  refine wl_nilCheck (aget_put_same _ _ _ (by omega)) ?_
  refine wl_fieldAddr hT (aget_put_same _ _ _ (by simp only [size_put]; omega)) ?_
  rw [Addr.add_lit]
  refine wl_load hU (aget_put_same _ _ _ (by simp only [size_put]; omega)) (hst.cell hc) ?_
  refine wl_bin (r := .bool (!(n == d'))) (aget_put_same _ _ _ (by simp only [size_put]; omega)) (eqGuard_at_int ..) (by simp [binOp, Op.intCmp]; try rfl) ?_
  refine wpList_nil (hq _ ((((((Fr.refl N N t nt a).put _ _ (by omega)).put _ _ (by omega)).put _ _ (by omega)).put _ _ (by omega)).put _ _ (by omega)) ?_)
  rw [hus]
  exact aget_put_same _ _ _ (by simp only [size_put]; omega)
theorem kcond_list {s t1 T k U UL EL J J2 off r y1 y2 y3 y4 y5 y6 : Nat} {q1 q2 q3 q4 q5 q6 : String} {e1 e2 e3 e4 e5 e6 : Array Edge} {d : Int} {esz : Nat} {e : Sch} (hT : FieldAt P T k off) (hU : OneCell P U) (hUL : P.underlying UL = some (.slice EL)) (hd : N ≤ t ∧ t ≤ t1 ∧ t1 + 5 < nt) :
    KCond RT P N nt ver K t s (Code.region r #[⟨some t1, .move (.tmp s), y1, q1, e1, none⟩, ⟨some (t1 + 1), .nilCheck (.tmp t1), y2, q2, e2, none⟩, ⟨some (t1 + 2), .fieldAddr T (.tmp (t1 + 1)) k, y3, q3, e3, none⟩, ⟨some (t1 + 3), .load U (.tmp (t1 + 2)), y4, q4, e4, none⟩,
      ⟨some (t1 + 4), .call { callee := .builtin .len, args := #[.tmp (t1 + 3)], argTypes := #[UL] }, y5, q5, e5, none⟩, ⟨some (t1 + 5), .binOp .gtr J (.tmp (t1 + 4)) (.const (.int .i64 0)) J2, y6, q6, e6, none⟩] false) (t1 + 5) off d (.list none esz e) := by
  intro w0 b o v hrep a w bs Q hst hh hq
  obtain ⟨d1, d2, d3⟩ := hd
  have hN := hst.size
  obtain ⟨ad, n, c, hc, hus⟩ : ∃ ad n c, w0.cell? ⟨b, o + off, none⟩ = some (.slice ad n c) ∧ (!usual (.list none esz e) d v) = decide ((0 : Int) < (n : Nat)) := by
    cases v <;> simp only [Rep] at hrep <;> try exact hrep.elim
    · exact absurd hrep.1 (by simp)
    · rename_i l
      obtain ⟨ad, c, h, -⟩ := hrep
      refine ⟨ad, _, c, h, ?_⟩
      cases l <;> simp [usual]
  refine wp_reg ?_
  refine wl_move hh.head ?_
  refine wl_nilCheck (aget_put_same _ _ _ (by omega)) ?_
  refine wl_fieldAddr hT (aget_put_same _ _ _ (by simp only [size_put]; omega)) ?_
  rw [Addr.add_lit]
  refine wl_load hU (aget_put_same _ _ _ (by simp only [size_put]; omega)) (hst.cell hc) ?_
  refine wl_len_slice hUL (aget_put_same _ _ _ (by simp only [size_put]; omega)) ?_
  refine wl_bin (r := .bool (decide ((0 : Int) < (n : Nat)))) (aget_put_same _ _ _ (by simp only [size_put]; omega)) (eqGuard_at_int ..) (by simp [binOp, Op.intCmp]) ?_
  refine wpList_nil (hq _ (((((((Fr.refl N N t nt a).put _ _ (by omega)).put _ _ (by omega)).put _ _ (by omega)).put _ _ (by omega)).put _ _ (by omega)).put _ _ (by omega)) ?_)
  rw [hus]
  exact aget_put_same _ _ _ (by simp only [size_put]; omega)
theorem kcond_uuid {s t1 T k U UZ J EJ J2 off r y1 y2 y3 y4 y5 y6 : Nat} {q1 q2 q3 q4 q5 q6 : String} {e1 e2 e3 e4 e5 e6 : Array Edge} {d : Int} (hT : FieldAt P T k off) (hU : ManyCells P U 16) (hZ : P.built UZ [] = some (((List.replicate 16 (0 : UInt8)).map byteV).toArray)) (hJ : P.underlying J = some (.array 16 EJ)) (hE : P.underlying EJ = some (.int .u8)) (hsz : ∀ w, (sizeOf EJ).run P w = .ok 1 w)
    (hJg : ∀ t4 t5 x y w, (eqGuard .neq J (.tmp t4) (.tmp t5) (.agg x) (.agg y)).run P w = .ok () w) (hd : N ≤ t ∧ t ≤ t1 ∧ t1 + 5 < nt) :
    KCond RT P N nt ver K t s (Code.region r #[⟨some t1, .move (.tmp s), y1, q1, e1, none⟩, ⟨some (t1 + 1), .nilCheck (.tmp t1), y2, q2, e2, none⟩, ⟨some (t1 + 2), .fieldAddr T (.tmp (t1 + 1)) k, y3, q3, e3, none⟩, ⟨some (t1 + 3), .load U (.tmp (t1 + 2)), y4, q4, e4, none⟩,
      ⟨some (t1 + 4), .build UZ #[], y5, q5, e5, none⟩, ⟨some (t1 + 5), .binOp .neq J (.tmp (t1 + 3)) (.tmp (t1 + 4)) J2, y6, q6, e6, none⟩] false) (t1 + 5) off d (.leaf .uuid) := by
  intro w0 b o v hrep a w bs Q hst hh hq
  obtain ⟨d1, d2, d3⟩ := hd
  have hN := hst.size
  cases v <;> simp only [Rep, RepLeaf] at hrep <;> try exact hrep.elim
  rename_i u
  obtain ⟨hu, hc⟩ := hrep
  refine wp_reg ?_
  refine wl_move hh.head ?_
  refine wl_nilCheck (aget_put_same _ _ _ (by omega)) ?_
  refine wl_fieldAddr hT (aget_put_same _ _ _ (by simp only [size_put]; omega)) ?_
  rw [Addr.add_lit]
  refine wl_value (v := .agg (u.map byteV).toArray) (w' := w) rfl ?_ ?_
  · have e1 : ∀ A : Act, aget A (t1 + 2) = .pointer (some ⟨b, o + off, none⟩) → (execOp A.eval ⟨some (t1 + 3), .load U (.tmp (t1 + 2)), y4, q4, e4, none⟩).run P w = .ok (.value (.agg (u.map byteV).toArray)) w := by
      intro A hA
      have e2 : A.eval (.tmp (t1 + 2)) = .pointer (some ⟨b, o + off, none⟩) := hA
      have := run_load_many (P := P) hU (w := w) (ad := ⟨b, o + off, none⟩) (l := u.map byteV) (by simpa using hu) (fun j x hx => by
        rw [Addr.add_lit]
        rw [List.getElem?_map] at hx
        cases hj : u[j]? with
        | none => simp [hj] at hx
        | some y =>
          rw [hj] at hx
          cases hx
          exact hst.cell (hc j y hj))
      simp [execOp, e2, this]
    exact e1 _ (aget_put_same _ _ _ (by simp only [size_put]; omega))
  refine wl_value (v := .agg ((List.replicate 16 (0 : UInt8)).map byteV).toArray) (w' := w) rfl ?_ ?_
  · have e2 := run_build (P := P) w UZ #[] _ hZ
    simp [execOp, e2]
  have hneq : (binOp .neq J (.agg (u.map byteV).toArray) (.agg ((List.replicate 16 (0 : UInt8)).map byteV).toArray)).run P w = .ok (.bool (!(u == List.replicate 16 0))) w := by
    have h := run_equalIn_bytes (P := P) w 9998 J EJ 16 hJ hE hsz u (List.replicate 16 0) hu (by simp)
    rw [run_neq_struct]
    change ((Op.equalIn 10000 J (.agg (u.map Extern.Stop.cell).toArray) (.agg ((List.replicate 16 (0 : UInt8)).map Extern.Stop.cell).toArray)).run P w).andThen _ = _
    rw [h]
    rfl
  refine wl_value (v := .bool (!(u == List.replicate 16 0))) (w' := w) rfl ?_ ?_
  · have e1 : ∀ A : Act, aget A (t1 + 3) = .agg (u.map byteV).toArray → aget A (t1 + 4) = .agg ((List.replicate 16 (0 : UInt8)).map byteV).toArray → (execOp A.eval ⟨some (t1 + 5), .binOp .neq J (.tmp (t1 + 3)) (.tmp (t1 + 4)) J2, y6, q6, e6, none⟩).run P w = .ok (.value (.bool (!(u == List.replicate 16 0)))) w := by
      intro A h1 h2
      have e2 : A.eval (.tmp (t1 + 3)) = .agg (u.map byteV).toArray := h1
      have e3 : A.eval (.tmp (t1 + 4)) = .agg ((List.replicate 16 (0 : UInt8)).map byteV).toArray := h2
      simp only [execOp, e2, e3, Sem.run_bind, hJg, Result.andThen_ok, hneq]
      rfl
    exact e1 _ ((aget_put_other _ _ _ _ (by omega)).trans (aget_put_same _ _ _ (by simp only [size_put]; omega))) (aget_put_same _ _ _ (by simp only [size_put]; omega))
  refine wpList_nil (hq _ (((((((Fr.refl N N t nt a).put _ _ (by omega)).put _ _ (by omega)).put _ _ (by omega)).put _ _ (by omega)).put _ _ (by omega)).put _ _ (by omega)) ?_)
  exact aget_put_same _ _ _ (by simp only [size_put]; omega)
end
end Go.Proofs.YtmpilpgabelmiaaGreatDoor

/- Known tags, written: their count, the loop over them. -/
namespace Go.Proofs.YtmpilpgabelmiaaGreatDoor
open Go Go.RowKit
set_option linter.unusedVariables false

theorem apTags_len2 : ∀ l : List (Nat × List UInt8), 2 * l.length ≤ (apTags l).length
  | [] => by simp
  | t :: l => by
    have ih := apTags_len2 l
    have h1 := uv_pos t.1
    have h2 := uv_pos t.2.length
    unfold apTags at ih ⊢
    simp only [List.flatMap_cons, List.length_append, List.length_cons]
    omega
theorem apTags_tagB (t : Nat × List UInt8) (l : List (Nat × List UInt8)) : apTags (t :: l) = tagB t.1 t.2 ++ apTags l := by
  unfold apTags tagB
  simp [List.append_assoc]
theorem apTags_app (l m : List (Nat × List UInt8)) : apTags (l ++ m) = apTags l ++ apTags m := by
  unfold apTags
  rw [List.flatMap_append]

section
variable {RT : RTags} {P : Program} {N nt : Nat} {w0 : World} {K : Slots} {lo t : Nat} {ver : Int}
/-- 'dst = AppendUvarint(dst, uint32(len(toEncode) + v.UnknownTags.Len()))'. -/
theorem kw_count {s te t1 T k off U I I2 J1 J2 FLen FU r y1 y2 y3 y4 y5 y6 y7 y8 y9 y10 y11 : Nat} {q1 q2 q3 q4 q5 q6 q7 q8 q9 q10 q11 : String} {e1 e2 e3 e4 e5 e6 e7 e8 e9 e10 e11 : Array Edge} {at1 at2 : Array TypeId}
    {b o n : Nat} {ks : List Nat} (hT : FieldAt P T k off) (hU : U32T P U) (hI : P.underlying I = some (.int .i64)) (hI2 : P.underlying I2 = some (.int .u32)) (hL : Enters P FLen) (hV : Enters P FU)
    (hLen : ∀ w, Below w0.heap.size w0 w → Calls P FLen #[.pointer (some ⟨b, o + off, none⟩)] w fun e w' => e = .returned (.int .i64 n) ∧ w = w')
    (hUv : ∀ n : Nat, n ≤ 4294967295 → AppC P FU (.int .u32 n) (uv n)) (hUz : ∀ n : Nat, n ≤ 4294967295 → AppCZ P FU (.int .u32 n) (uv n)) (hn : ks.length + n ≤ 4294967295) (hD : Dims N nt lo t) (hd : t ≤ t1 ∧ t1 + 9 < nt ∧ te ≠ 1 ∧ te < N ∧ s < t1)
    (a : Act) (w : World) (bs : List UInt8) (Q : Exit → Act → World → Prop) (hst : St nt w0 a w bs) (hs : aget a s = .pointer (some ⟨b, o, none⟩)) (hte : TE w0 w (aget a te) ks) (hap : Parted (aget a 1) (aget a te)) (hl : bs.length + (uv (ks.length + n)).length ≤ lim)
    (hq : ∀ a' w', St nt w0 a' w' (bs ++ uv (ks.length + n)) → Fr N N t 1 a a' → TE w0 w' (aget a te) ks → Parted (aget a' 1) (aget a te) → Q .normal a' w') :
    (Code.region r #[⟨some t1, .move (.tmp 1), y1, q1, e1, none⟩, ⟨some (t1 + 1), .move (.tmp te), y2, q2, e2, none⟩, ⟨some (t1 + 2), .call { callee := .builtin .len, args := #[.tmp (t1 + 1)], argTypes := #[U] }, y3, q3, e3, none⟩,
      ⟨some (t1 + 3), .move (.tmp s), y4, q4, e4, none⟩, ⟨some (t1 + 4), .nilCheck (.tmp (t1 + 3)), y5, q5, e5, none⟩, ⟨some (t1 + 5), .fieldAddr T (.tmp (t1 + 4)) k, y6, q6, e6, none⟩, ⟨some (t1 + 6), .call { callee := .value (.func FLen), args := #[.tmp (t1 + 5)], argTypes := at1 }, y7, q7, e7, none⟩,
      ⟨some (t1 + 7), .binOp .add J1 (.tmp (t1 + 2)) (.tmp (t1 + 6)) J2, y8, q8, e8, none⟩, ⟨some (t1 + 8), .convert I I2 (.tmp (t1 + 7)), y9, q9, e9, none⟩, ⟨some (t1 + 9), .call { callee := .value (.func FU), args := #[.tmp t1, .tmp (t1 + 8)], argTypes := at2 }, y10, q10, e10, none⟩,
      ⟨some 1, .assign (.tmp (t1 + 9)), y11, q11, e11, none⟩] false).wp P Q a w := by
  obtain ⟨d1, d2, d3, d4, d5⟩ := hd
  obtain ⟨g1, g2, g3, g4⟩ := hD
  have hN := hst.size
  obtain ⟨ad, c, htv⟩ : ∃ ad c, aget a te = .slice ad ks.length c := by
    rcases hte.2 with ⟨h, hn0⟩ | ⟨g, cap, cur, h, -⟩
    · exact ⟨none, 0, by rw [h, hn0]⟩
    · exact ⟨_, _, h⟩
  refine wp_reg ?_
  refine wl_move rfl ?_
  refine wl_move (v := .slice ad ks.length c) (by rw [aget_put_other _ _ _ _ (by omega)]; exact htv) ?_
  refine wl_len_slice hU.under (aget_put_same _ _ _ (by simp only [size_put]; omega)) ?_
  refine wl_move (v := .pointer (some ⟨b, o, none⟩)) (by rw [aget_put_other _ _ _ _ (by omega), aget_put_other _ _ _ _ (by omega), aget_put_other _ _ _ _ (by omega)]; exact hs) ?_
  refine wl_nilCheck (aget_put_same _ _ _ (by simp only [size_put]; omega)) ?_
  refine wl_fieldAddr hT (aget_put_same _ _ _ (by simp only [size_put]; omega)) ?_
  rw [Addr.add_lit]
  refine wl_call (R := fun e w' => e = .returned (.int .i64 n) ∧ w = w') hL ?_ ?_
  · simp only [List.map_toArray, List.map_cons, List.map_nil, aget_eval]
    rw [aget_put_same _ _ _ (by simp only [size_put]; omega)]
    exact hLen w hst.below
  rintro e w' ⟨rfl, rfl⟩
  refine ⟨_, rfl, ?_⟩
  refine wl_bin2 (x := .int .i64 ks.length) (y := .int .i64 n) (r := .int .i64 ((ks.length + n : Nat) : Int)) ?_ (aget_put_same _ _ _ (by simp only [size_put]; omega)) (eqGuard_at_int ..) ?_ ?_
  · rw [aget_put_other _ _ _ _ (by omega), aget_put_other _ _ _ _ (by omega), aget_put_other _ _ _ _ (by omega), aget_put_other _ _ _ _ (by omega)]
    exact aget_put_same _ _ _ (by simp only [size_put]; omega)
  · have e : IntKind.i64.wrap ((ks.length : Int) + n) = ((ks.length + n : Nat) : Int) := by
      rw [IntKind.wrap_i64]
      omega
    simp [binOp, Op.intArith, e]
  refine wl_value (v := .int .u32 ((ks.length + n : Nat) : Int)) (w' := w) rfl ?_ ?_
  · have e1 : ∀ A : Act, aget A (t1 + 7) = .int .i64 ((ks.length + n : Nat) : Int) → (execOp A.eval ⟨some (t1 + 8), .convert I I2 (.tmp (t1 + 7)), y9, q9, e9, none⟩).run P w = .ok (.value (.int .u32 ((ks.length + n : Nat) : Int))) w := by
      intro A hA
      have e2 : A.eval (.tmp (t1 + 7)) = .int .i64 ((ks.length + n : Nat) : Int) := hA
      have e3 : IntKind.u32.wrap ((ks.length + n : Nat) : Int) = ((ks.length + n : Nat) : Int) := by rw [IntKind.wrap_u32]; omega
      simp only [execOp, e2, convert, Sem.run_bind, run_underlying hI, run_underlying hI2, Result.andThen_ok]
      simp [Conv.intToInt]
      exact_mod_cast e3
    exact e1 _ (aget_put_same _ _ _ (by simp only [size_put]; omega))
  generalize hA9 : (((((((((a.put (some t1) (aget a 1)).put (some (t1 + 1)) (.slice ad ks.length c)).put (some (t1 + 2)) (.int .i64 ks.length)).put (some (t1 + 3)) (.pointer (some ⟨b, o, none⟩))).put (some (t1 + 4)) (.pointer (some ⟨b, o, none⟩))).put (some (t1 + 5)) (.pointer (some ⟨b, o + off, none⟩))).put (some (t1 + 6)) (.int .i64 n)).put (some (t1 + 7)) (.int .i64 ((ks.length + n : Nat) : Int))).put (some (t1 + 8)) (.int .u32 ((ks.length + n : Nat) : Int))) = A9
  show wpList _ _ _ _ A9 _
  have hf9 : Fr N N t nt a A9 := by
    rw [← hA9]
    exact (((((((((Fr.refl N N t nt a).put _ _ (by omega)).put _ _ (by omega)).put _ _ (by omega)).put _ _ (by omega)).put _ _ (by omega)).put _ _ (by omega)).put _ _ (by omega)).put _ _ (by omega)).put _ _ (by omega)
  have h91 : aget A9 t1 = aget a 1 := by
    rw [← hA9, aget_put_other _ _ _ _ (by omega), aget_put_other _ _ _ _ (by omega), aget_put_other _ _ _ _ (by omega), aget_put_other _ _ _ _ (by omega), aget_put_other _ _ _ _ (by omega), aget_put_other _ _ _ _ (by omega), aget_put_other _ _ _ _ (by omega), aget_put_other _ _ _ _ (by omega)]
    exact aget_put_same _ _ _ (by omega)
  have h98 : aget A9 (t1 + 8) = .int .u32 ((ks.length + n : Nat) : Int) := by rw [← hA9]; exact aget_put_same _ _ _ (by simp only [size_put]; omega)
  clear hA9
  have hD9 : Dims N nt N t := ⟨by omega, Nat.le_refl _, g3, g4⟩
  refine wl_call (R := fun e w' => ∃ v', e = .returned v' ∧ Own w0.heap.size w' v' (bs ++ uv (ks.length + n)) ∧ Below w0.heap.size w w' ∧ TE w0 w' (aget a te) ks ∧ Parted v' (aget a te)) hV ?_ ?_
  · simp only [List.map_toArray, List.map_cons, List.map_nil, aget_eval]
    rw [h91, h98]
    cases hb : (aget a te).ownBlock with
    | none =>
      refine (hUv (ks.length + n) hn w0.heap.size w _ bs hst.own hst.below.size hl).mono ?_
      rintro e w' ⟨v', rfl, hown, hbel⟩
      exact ⟨v', rfl, hown, hbel, te_block hte (fun z hz => (by rw [hb] at hz; cases hz)), (fun z hz => (by rw [hb] at hz; cases hz))⟩
    | some z0 =>
      refine (hUz (ks.length + n) hn w0.heap.size z0 w _ bs hst.own hst.below.size (World.ownsRow.lt hte z0 hb).2 (hap z0 hb) hl).mono ?_
      rintro e w' ⟨v', rfl, hown, hbel, hzz, hvz⟩
      refine ⟨v', rfl, hown, hbel, te_block hte fun z hz => ?_, fun z hz => ?_⟩
      · rw [hb] at hz
        cases hz
        exact hzz
      · rw [hb] at hz
        cases hz
        exact hvz
  rintro e w' ⟨v', rfl, hown, hbel, hte', hap'⟩
  refine ⟨v', rfl, ?_⟩
  refine wl_assign (aget_put_same _ _ _ (by have := hf9.size; omega)) ?_
  have e1 : aget ((A9.put (some (t1 + 9)) v').put (some 1) v') 1 = v' := aget_put_same _ _ _ (by have := hf9.size; simp only [size_put]; omega)
  refine wpList_nil (hq _ _ ⟨by simp only [size_put, hf9.size, hN], by rw [e1]; exact hown, hst.below.trans hbel⟩ ((hf9.to1 hD9).trans (((Fr.refl N N t 1 A9).put _ _ (by omega)).put _ _ (by omega))) hte' (by rw [e1]; exact hap'))
end
end Go.Proofs.YtmpilpgabelmiaaGreatDoor

/- Known tags, written: the loop over them. -/
namespace Go.Proofs.YtmpilpgabelmiaaGreatDoor
open Go Go.RowKit
set_option linter.unusedVariables false

section
variable {RT : RTags} {P : Program} {N nt : Nat} {w0 : World} {K : Slots} {lo t : Nat} {ver : Int} {strong : Bool}
/-- Tags that are to be written: each a known one's. -/
def EV (RT : RTags) (ver : Int) (w0 : World) (b o : Nat) (L : List (Nat × Int × Sch)) (E : List (Nat × List UInt8)) : Prop :=
  ∀ e ∈ E, ∃ (c : Nat × Int × Sch) (v : GV), L[e.1]? = some c ∧ Rep RT [] w0 ver true c.2.2 b (o + c.1) v ∧ e.2 = ap ver true c.2.2 v
/-- The code that writes one tag, of which the number is known: it is one of those from i on. -/
def SwW (RT : RTags) (P : Program) (N nt : Nat) (ver : Int) (strong : Bool) (K : Slots) (lo t s tk i : Nat) (L : List (Nat × Int × Sch)) (c : Code) : Prop :=
  ∀ (w0 : World) (b o : Nat) (a : Act) (w : World) (bs : List UInt8) (z : Nat) (Q : Exit → Act → World → Prop) (k j : Nat) (cc : Nat × Int × Sch) (v : GV), L[j]? = some cc → k = i + j → Rep RT [] w0 ver true cc.2.2 b (o + cc.1) v →
    St nt w0 a w bs → Holds ((s, .pointer (some ⟨b, o, none⟩)) :: K) a → aget a tk = .int .u32 (k : Nat) → z < w.heap.size → (aget a 1).ownBlock ≠ some z → bs.length + (tagB k (ap ver true cc.2.2 v)).length ≤ lim →
    (∀ a' w', St nt w0 a' w' (bs ++ tagB k (ap ver true cc.2.2 v)) → Fr N lo t 1 a a' → (strong = true → w'.heap[z]? = w.heap[z]? ∧ (aget a' 1).ownBlock ≠ some z) → Q .normal a' w') → c.wp P Q a w
theorem swW_nil {s tk i : Nat} {c : Code} : SwW RT P N nt ver strong K lo t s tk i [] c := fun w0 b o a w bs z Q k j cc v h => by simp at h
theorem swW_cons {s tk i t1 J1 J2 r y1 y2 off lo' t' : Nat} {d : Int} {q1 q2 : String} {e1 e2 : Array Edge} {L : List (Nat × Int × Sch)} {f : Sch} {c1 c2 : Code} {iI : Int} (hiI : iI = (i : Nat)) (hk : KOK N lo t ((s, .int .i64 0) :: K)) (hD : Dims N nt lo t)
    (hd : t ≤ t1 ∧ t1 + 1 < nt ∧ N ≤ tk ∧ tk < t ∧ lo ≤ lo' ∧ t ≤ t') (h1 : KWB RT P N nt ver strong K lo' t' s c1 off f i) (h2 : SwW RT P N nt ver strong K lo t s tk (i + 1) L c2) :
    SwW RT P N nt ver strong K lo t s tk i ((off, d, f) :: L) ((Code.region r #[⟨some (t1 + 1), .binOp .eql J1 (.tmp tk) (.const (.int .u32 iI)) J2, y1, q1, e1, none⟩, ⟨some t1, .assign (.tmp (t1 + 1)), y2, q2, e2, none⟩] false).seq (.cond (.tmp t1) c1 c2)) := by
  subst hiI
  intro w0 b o a w bs z Q k j cc v hj hkj hrep hst hh htk hz hvz hl hq
  obtain ⟨d1, d2, d3, d4, d5, d6⟩ := hd
  have g1 := hD.dOne; have g2 := hD.dLo; have g3 := hD.dT; have g4 := hD.dN
  have hN := hst.size
  have hks : KOK N lo t ((s, .pointer (some ⟨b, o, none⟩)) :: K) := fun p hp => by
    rcases List.mem_cons.1 hp with rfl | hp
    · exact hk (s, .int .i64 0) (by simp)
    · exact hk p (by simp [hp])
  refine wp_seq (wp_reg ?_)
  refine wl_bin (r := .bool (decide ((k : Int) = i))) htk (eqGuard_at_int ..) (by simp [binOp, Op.intCmp]; try rfl) ?_
  refine wl_assign (aget_put_same _ _ _ (by omega)) ?_
  refine wpList_nil ?_
  have f1 : Fr N lo t nt a ((a.put (some (t1 + 1)) (.bool (decide ((k : Int) = i)))).put (some t1) (.bool (decide ((k : Int) = i)))) := ((Fr.refl N lo t nt a).put _ _ (by omega)).put _ _ (by omega)
  have x1 : aget ((a.put (some (t1 + 1)) (.bool (decide ((k : Int) = i)))).put (some t1) (.bool (decide ((k : Int) = i)))) t1 = .bool (decide ((k : Int) = i)) := aget_put_same _ _ _ (by simp only [size_put]; omega)
  have htk1 : aget ((a.put (some (t1 + 1)) (.bool (decide ((k : Int) = i)))).put (some t1) (.bool (decide ((k : Int) = i)))) tk = .int .u32 (k : Nat) := by rw [aget_put_other _ _ _ _ (by omega), aget_put_other _ _ _ _ (by omega)]; exact htk
  have h11 : aget ((a.put (some (t1 + 1)) (.bool (decide ((k : Int) = i)))).put (some t1) (.bool (decide ((k : Int) = i)))) 1 = aget a 1 := by rw [aget_put_other _ _ _ _ (by omega), aget_put_other _ _ _ _ (by omega)]
  generalize ((a.put (some (t1 + 1)) (.bool (decide ((k : Int) = i)))).put (some t1) (.bool (decide ((k : Int) = i)))) = a1 at *
  have hst1 := hst.fr f1 hD
  have hh1 := hh.fr hks (f1.to1 hD)
  simp only [Exit.then]
  by_cases hki : k = i
  · have hdec : decide ((k : Int) = i) = true := by simp; omega
    rw [hdec] at x1
    obtain rfl : j = 0 := by omega
    simp only [List.getElem?_cons_zero, Option.some.injEq] at hj
    subst hj
    subst hki
    refine wp_cond_true x1 ?_
    exact h1 w0 b o v hrep a1 w bs z Q hst1 hh1 hz (by rw [h11]; exact hvz) hl fun a2 w2 k1 k2 k3 => hq a2 w2 k1 ((f1.to1 hD).trans (k2.mono d5 d6)) k3
  · have hdec : decide ((k : Int) = i) = false := by simp; omega
    rw [hdec] at x1
    refine wp_cond_false x1 ?_
    cases j with
    | zero => omega
    | succ j => exact h2 w0 b o a1 w bs z Q k j cc v (by simpa using hj) (by omega) hrep hst1 hh1 htk1 hz (by rw [h11]; exact hvz) hl fun a2 w2 k1 k2 k3 => hq a2 w2 k1 ((f1.to1 hD).trans k2) k3
/-- 'for _, tag := range toEncode { switch tag { .. } }'. -/
theorem kwloop {s te kx t2 t9 lo' t' B B' B2 r1 r2 r3 r4 r5 U UE T2 U2 T3 U3 y1 y2 y3 y4 y5 y6 y7 y8 y9 y10 : Nat} {q1 q2 q3 q4 q5 q6 q7 q8 q9 q10 : String} {e1 e2 e3 e4 e5 e6 e7 e8 e9 e10 : Array Edge} {sw : Code} {L : List (Nat × Int × Sch)} {E : List (Nat × List UInt8)} {b o : Nat} {V : Value}
    (hk : KOK N lo t ((s, .int .i64 0) :: K)) (hU : U32T P U) (hUE : OneCell P UE) (hD : Dims N nt lo t) (hd : t ≤ t2 ∧ t2 + 6 < nt ∧ lo ≤ kx ∧ kx < N ∧ kx < lo' ∧ lo ≤ lo' ∧ t2 + 6 < t' ∧ t ≤ t' ∧ t' ≤ t9 ∧ t9 < nt ∧ te < N) (hB : B ≠ B' ∧ B ≠ B2)
    (hsw : SwW RT P N nt ver strong K lo' t' s (t2 + 6) 0 L sw) (hEV : EV RT ver w0 b o L E) (hks : E.length ≤ 1000) (hstr : strong = true ∨ E.length ≤ 1)
    (a : Act) (w : World) (bs : List UInt8) (Q : Exit → Act → World → Prop) (hst : St nt w0 a w bs) (hh : Holds ((s, .pointer (some ⟨b, o, none⟩)) :: K) a) (hV : aget a te = V) (hte : TE w0 w V (E.map (·.1))) (hap : Parted (aget a 1) V) (hl : bs.length + (apTags E).length ≤ lim)
    (hq : ∀ a' w', St nt w0 a' w' (bs ++ apTags E) → Fr N lo t 1 a a' → Q .normal a' w') :
    ((Code.region r1 #[⟨some t2, .move (.tmp te), y1, q1, e1, none⟩, ⟨some (t2 + 1), .call { callee := .builtin .len, args := #[.tmp t2], argTypes := #[U] }, y2, q2, e2, none⟩, ⟨some (t2 + 2), .move (.const (.int .i64 0)), y3, q3, e3, none⟩] false).seq
      (.block B (.loop ((Code.region r2 #[⟨some (t2 + 3), .binOp .lss T2 (.tmp (t2 + 2)) (.tmp (t2 + 1)) U2, y4, q4, e4, none⟩] false).seq ((Code.cond (.tmp (t2 + 3)) .skip (.exit B)).seq
        ((Code.block B' ((Code.region r3 #[⟨some (t2 + 4), .indexAddr U (.tmp t2) (.tmp (t2 + 2)), y5, q5, e5, none⟩, ⟨some (t2 + 5), .load UE (.tmp (t2 + 4)), y6, q6, e6, none⟩, ⟨some kx, .assign (.tmp (t2 + 5)), y7, q7, e7, none⟩] false).seq
          ((Code.region r4 #[⟨some (t2 + 6), .move (.tmp kx), y8, q8, e8, none⟩] false).seq (.block B2 sw)))).seq
          (.region r5 #[⟨some t9, .binOp .add T3 (.tmp (t2 + 2)) (.const (.int .i64 1)) U3, y9, q9, e9, none⟩, ⟨some (t2 + 2), .move (.tmp t9), y10, q10, e10, none⟩] false))))))).wp P Q a w := by
  obtain ⟨d1, d2, d3, d4, d5, d6, d7, d8, d9, d10, d11⟩ := hd
  have g1 := hD.dOne; have g2 := hD.dLo; have g3 := hD.dT; have g4 := hD.dN
  have hN := hst.size
  have hks' : KOK N lo t ((s, .pointer (some ⟨b, o, none⟩)) :: K) := fun p hp => by
    rcases List.mem_cons.1 hp with rfl | hp
    · exact hk (s, .int .i64 0) (by simp)
    · exact hk p (by simp [hp])
  obtain ⟨i0, z0, i1, i2, i3, i4, i5⟩ := hU.info
  obtain ⟨ad, c, hVs⟩ : ∃ ad c, V = .slice ad E.length c := by
    rcases hte.2 with ⟨h, hn0⟩ | ⟨g, cap, cur, h, -⟩
    · rw [List.length_map] at hn0
      exact ⟨none, 0, by rw [h, hn0]⟩
    · rw [List.length_map] at h
      exact ⟨_, _, h⟩
  refine wp_seq (wp_reg ?_)
  refine wl_move (hV.trans hVs) ?_
  refine wl_len_slice hU.under (aget_put_same _ _ _ (by omega)) ?_
  refine wl_move_c ?_
  refine wpList_nil ?_
  generalize ha1 : Act.put (Act.put (Act.put a (some t2) (.slice ad E.length c)) (some (t2 + 1)) (.int .i64 E.length)) (some (t2 + 2)) (.int .i64 0) = a1
  have hf1 : Fr N lo t nt a a1 := by rw [← ha1]; exact (((Fr.refl N lo t nt a).put _ _ (by omega)).put _ _ (by omega)).put _ _ (by omega)
  have hn1 : aget a1 (t2 + 1) = .int .i64 E.length := by rw [← ha1, aget_put_other _ _ _ _ (by omega)]; exact aget_put_same _ _ _ (by simp only [size_put]; omega)
  have hi1 : aget a1 (t2 + 2) = .int .i64 0 := by rw [← ha1]; exact aget_put_same _ _ _ (by simp only [size_put]; omega)
  have hu1 : aget a1 t2 = V := by rw [← ha1, aget_put_other _ _ _ _ (by omega), aget_put_other _ _ _ _ (by omega), aget_put_same _ _ _ (by omega), hVs]
  have h11 : aget a1 1 = aget a 1 := hf1.same 1 (by omega) (.inl g1)
  clear ha1
  have hst1 := hst.fr hf1 hD
  have hh1 := hh.fr hks' (hf1.to1 hD)
  simp only [Exit.then]
  refine wp_block ?_
  refine wp_loop (fun a' w' => ∃ n, n ≤ E.length ∧ St nt w0 a' w' (bs ++ apTags (E.take n)) ∧ aget a' (t2 + 2) = .int .i64 n ∧ aget a' (t2 + 1) = .int .i64 E.length ∧ aget a' t2 = V ∧ Fr N lo t 1 a1 a' ∧ (n < E.length → TE w0 w' V (E.map (·.1)) ∧ Parted (aget a' 1) V))
    (fun a' _ => E.length - (intOf (aget a' (t2 + 2))).toNat) ⟨0, Nat.zero_le _, by simpa [apTags] using hst1, hi1, hn1, hu1, Fr.refl .., fun _ => ⟨hte, by rw [h11]; exact hap⟩⟩ ?_
  rintro a2 w2 ⟨n, hk1, hst2, hi2, hn2, hu2, hf2, hT2⟩
  have hN2 := hst2.size
  refine wp_seq (wp_reg ?_)
  refine wl_bin2 (r := .bool (decide ((n : Int) < E.length))) hi2 hn2 (eqGuard_at_int ..) (by simp [binOp, Op.intCmp]) ?_
  refine wpList_nil ?_
  generalize ha3 : Act.put a2 (some (t2 + 3)) (.bool (decide ((n : Int) < E.length))) = a3
  have hx3 : aget a3 (t2 + 3) = .bool (decide ((n : Int) < E.length)) := by rw [← ha3]; exact aget_put_same _ _ _ (by omega)
  have hf3 : Fr N lo t nt a2 a3 := by rw [← ha3]; exact (Fr.refl N lo t nt a2).put _ _ (by omega)
  have hi3 : aget a3 (t2 + 2) = .int .i64 n := by rw [← ha3, aget_put_other _ _ _ _ (by omega)]; exact hi2
  have hn3 : aget a3 (t2 + 1) = .int .i64 E.length := by rw [← ha3, aget_put_other _ _ _ _ (by omega)]; exact hn2
  have hu3 : aget a3 t2 = V := by rw [← ha3, aget_put_other _ _ _ _ (by omega)]; exact hu2
  have h31 : aget a3 1 = aget a2 1 := by rw [← ha3, aget_put_other _ _ _ _ (by omega)]
  clear ha3
  have hst3 := hst2.fr hf3 hD
  have hN3 := hst3.size
  by_cases hlt : n < E.length
  · have hdec : decide ((n : Int) < E.length) = true := by simp; omega
    rw [hdec] at hx3
    refine wp_seq (wp_cond_true hx3 (wp_skip ?_))
    simp only [Exit.then]
    obtain ⟨hte2, hap2⟩ := hT2 hlt
    obtain ⟨g, cap, hVg⟩ : ∃ g cap, V = .slice (some ⟨g, 0, none⟩) E.length cap := by
      rcases hte2.2 with ⟨h, hn0⟩ | ⟨g, cap, cur, h, -⟩
      · rw [List.length_map] at hn0; omega
      · rw [List.length_map] at h
        exact ⟨g, cap, h⟩
    have hown : V.ownBlock = some g := by rw [hVg]; rfl
    have hcell : w2.cell? ⟨g, n, none⟩ = some (kV (E[n]).1) := by
      have := World.ownsRow.cells hte2 (g := g) hown n (kV (E[n]).1) (by simp [hlt])
      rw [Addr.add_lit, Nat.zero_add] at this
      exact this
    refine wp_seq (wp_block ?_)
    refine wp_seq (wp_reg ?_)
    refine wl_index (k := n) hU.under ⟨i0, i1, i3⟩ hlt (hu3.trans hVg) hi3 ?_
    rw [Addr.add_lit, Nat.zero_add, Nat.mul_one]
    refine wl_load hUE (aget_put_same _ _ _ (by omega)) hcell ?_
    refine wl_assign (aget_put_same _ _ _ (by simp only [size_put]; omega)) ?_
    refine wpList_nil ?_
    generalize ha4 : Act.put (Act.put (Act.put a3 (some (t2 + 4)) (.pointer (some ⟨g, n, none⟩))) (some (t2 + 5)) (kV (E[n]).1)) (some kx) (kV (E[n]).1) = a4
    have hf4 : Fr N lo t nt a3 a4 := by rw [← ha4]; exact (((Fr.refl N lo t nt a3).put _ _ (by omega)).put _ _ (by omega)).put _ _ (by omega)
    have hx4 : aget a4 kx = kV (E[n]).1 := by rw [← ha4]; exact aget_put_same _ _ _ (by simp only [size_put]; omega)
    have hi4 : aget a4 (t2 + 2) = .int .i64 n := by rw [← ha4, aget_put_other _ _ _ _ (by omega), aget_put_other _ _ _ _ (by omega), aget_put_other _ _ _ _ (by omega)]; exact hi3
    have hn4 : aget a4 (t2 + 1) = .int .i64 E.length := by rw [← ha4, aget_put_other _ _ _ _ (by omega), aget_put_other _ _ _ _ (by omega), aget_put_other _ _ _ _ (by omega)]; exact hn3
    have hu4 : aget a4 t2 = V := by rw [← ha4, aget_put_other _ _ _ _ (by omega), aget_put_other _ _ _ _ (by omega), aget_put_other _ _ _ _ (by omega)]; exact hu3
    clear ha4
    have hst4 := hst3.fr hf4 hD
    simp only [Exit.then]
    refine wp_seq (wp_reg (wl_move hx4 (wpList_nil ?_)))
    have hf5 : Fr N lo t nt a4 (a4.put (some (t2 + 6)) (kV (E[n]).1)) := (Fr.refl N lo t nt a4).put _ _ (by omega)
    have hx5 : aget (a4.put (some (t2 + 6)) (kV (E[n]).1)) (t2 + 6) = .int .u32 ((E[n]).1 : Nat) := aget_put_same _ _ _ (by rw [hst4.size]; omega)
    have hi5 : aget (a4.put (some (t2 + 6)) (kV (E[n]).1)) (t2 + 2) = .int .i64 n := by rw [aget_put_other _ _ _ _ (by omega)]; exact hi4
    have hn5 : aget (a4.put (some (t2 + 6)) (kV (E[n]).1)) (t2 + 1) = .int .i64 E.length := by rw [aget_put_other _ _ _ _ (by omega)]; exact hn4
    have hu5 : aget (a4.put (some (t2 + 6)) (kV (E[n]).1)) t2 = V := by rw [aget_put_other _ _ _ _ (by omega)]; exact hu4
    generalize (a4.put (some (t2 + 6)) (kV (E[n]).1)) = a5 at *
    have hst5 := hst4.fr hf5 hD
    have hf15 : Fr N lo t 1 a1 a5 := ((hf2.trans (hf3.to1 hD)).trans (hf4.to1 hD)).trans (hf5.to1 hD)
    have h51 : aget a5 1 = aget a2 1 := ((hf5.same 1 (by omega) (.inl g1)).trans (hf4.same 1 (by omega) (.inl g1))).trans h31
    have hh5 := hh1.fr hks' hf15
    obtain ⟨cc, v, hcc, hrep, hev⟩ := hEV (E[n]) (List.getElem_mem hlt)
    have hsp : apTags E = apTags (E.take n) ++ (tagB (E[n]).1 (E[n]).2 ++ apTags (E.drop (n + 1))) := by
      conv => lhs; rw [← List.take_append_drop n E, apTags_app, List.drop_eq_getElem_cons hlt, apTags_tagB]
    have hsn : apTags (E.take (n + 1)) = apTags (E.take n) ++ tagB (E[n]).1 (E[n]).2 := by
      rw [List.take_succ_eq_append_getElem hlt, apTags_app, apTags_tagB]
      simp [apTags]
    have hz2 : g < w2.heap.size := (World.ownsRow.lt hte2 g hown).2
    simp only [Exit.then]
    refine wp_block ?_
    refine hsw w0 b o a5 w2 _ g _ (E[n]).1 (E[n]).1 cc v hcc (by omega) hrep hst5 hh5 hx5 hz2 (by rw [h51]; exact hap2 g hown) ?_ fun a6 w6 hst6 hf6 hs6 => ?_
    · rw [← hev]
      rw [hsp] at hl
      simp only [List.length_append] at hl ⊢
      omega
    have hi6 : aget a6 (t2 + 2) = .int .i64 n := (hf6.same _ (by omega) (.inr ⟨by omega, by omega⟩)).trans hi5
    have hn6 : aget a6 (t2 + 1) = .int .i64 E.length := (hf6.same _ (by omega) (.inr ⟨by omega, by omega⟩)).trans hn5
    have hu6 : aget a6 t2 = V := (hf6.same _ (by omega) (.inr ⟨by omega, by omega⟩)).trans hu5
    have hN6 := hst6.size
    simp only [Exit.then, Exit.inBlock]
    refine wp_reg ?_
    refine wl_bin (r := .int .i64 ((n + 1 : Nat) : Int)) hi6 (eqGuard_at_int ..) ?_ ?_
    · simp only [binOp, Op.intArith]
      simp
      have : IntKind.i64.wrap ((n : Int) + 1) = (n : Int) + 1 := by
        rw [IntKind.wrap_i64]
        omega
      rw [this]
    refine wl_move (aget_put_same _ _ _ (by omega)) ?_
    refine wpList_nil ?_
    have hf7 : Fr N lo t nt a6 ((a6.put (some t9) (.int .i64 ((n + 1 : Nat) : Int))).put (some (t2 + 2)) (.int .i64 ((n + 1 : Nat) : Int))) := ((Fr.refl N lo t nt a6).put _ _ (by omega)).put _ _ (by omega)
    have h71 : aget ((a6.put (some t9) (.int .i64 ((n + 1 : Nat) : Int))).put (some (t2 + 2)) (.int .i64 ((n + 1 : Nat) : Int))) 1 = aget a6 1 := hf7.same 1 (by omega) (.inl g1)
    refine ⟨⟨n + 1, by omega, ?_, aget_put_same _ _ _ (by simp only [size_put]; omega), ?_, ?_, ?_, ?_⟩, ?_⟩
    · rw [hsn, ← List.append_assoc, hev]
      exact hst6.fr hf7 hD
    · rw [aget_put_other _ _ _ _ (by omega), aget_put_other _ _ _ _ (by omega)]; exact hn6
    · rw [aget_put_other _ _ _ _ (by omega), aget_put_other _ _ _ _ (by omega)]; exact hu6
    · exact hf15.trans ((hf6.mono (by omega) (by omega)).trans (hf7.to1 hD))
    · intro hlt2
      rcases hstr with hs | hs
      · obtain ⟨u1, u2⟩ := hs6 hs
        refine ⟨te_block hte2 fun z hz => ?_, fun z hz => ?_⟩
        · rw [hown] at hz; cases hz; exact u1
        · rw [hown] at hz; cases hz; rw [h71]; exact u2
      · omega
    · rw [aget_put_same _ _ _ (by simp only [size_put]; omega), hi2]
      simp [intOf]
      omega
  · have hdec : decide ((n : Int) < E.length) = false := by simp; omega
    rw [hdec] at hx3
    obtain rfl : n = E.length := by omega
    refine wp_seq (wp_cond_false hx3 (wp_exit ?_))
    simp only [Exit.then, Exit.inBlock, if_true]
    refine hq a3 w2 ?_ ((hf1.to1 hD).trans (hf2.trans (hf3.to1 hD)))
    rw [List.take_length] at hst2
    exact hst2.fr hf3 hD
end
end Go.Proofs.YtmpilpgabelmiaaGreatDoor

/- Known tags, written: the end of a part, whole. -/
namespace Go.Proofs.YtmpilpgabelmiaaGreatDoor
open Go Go.RowKit
set_option linter.unusedVariables false

/-- The known tags that are written, from number i on. -/
def kw (ver : Int) : List (Nat × Int × Sch) → Nat → List GV → List (Nat × List UInt8)
  | (_, d, f) :: L, i, v :: vs => (if usual f d v then [] else [(i, ap ver true f v)]) ++ kw ver L (i + 1) vs
  | _, _, _ => []
theorem kt_kw (ver : Int) (us : List (Nat × List UInt8)) : ∀ {f : Sch} {vs : List GV} {i : Nat}, isChain f = true → vs.length = (chainO f).length → kt ver true f i (kval vs us) = kw ver (chainO f) i vs ++ us
  | .ktag off d f rest, [], _, _, hl => by simp [chainO] at hl
  | .ktag off d f rest, v :: vs, i, hc, hl => by
    simp only [isChain] at hc
    simp only [kt, kval, chainO, kw, List.append_assoc]
    rw [kt_kw ver us hc (by simpa [chainO] using hl)]
  | .tags off, [], _, _, _ => rfl
  | .tags off, _ :: _, _, _, hl => by simp [chainO] at hl
  | .leaf _, _, _, hc, _ => by cases hc
  | .list _ _ _, _, _, hc, _ => by cases hc
  | .opt _, _, _, hc, _ => by cases hc
  | .done, _, _, hc, _ => by cases hc
  | .cons _ _ _ _ _, _, _, hc, _ => by cases hc
theorem ap_kw (ver : Int) (us : List (Nat × List UInt8)) {off : Nat} {d : Int} {f rest : Sch} {vs : List GV} (hc : isChain rest = true) (hl : vs.length = (chainO (.ktag off d f rest)).length) :
    ap ver true (.ktag off d f rest) (kval vs us) = kOut (kw ver (chainO (.ktag off d f rest)) 0 vs ++ us) := by
  have h := kt_kw ver us (f := .ktag off d f rest) (vs := vs) (i := 0) hc hl
  cases vs with
  | nil => simp [chainO] at hl
  | cons v vs =>
    rw [← h]
    simp only [ap, kval, kt, if_true]
theorem rep_chain_inv {RT : RTags} {O : List Nat} {w : World} {ver : Int} {flex : Bool} {b o : Nat} : ∀ {f : Sch} {v : GV}, isChain f = true → Rep RT O w ver flex f b o v →
    ∃ vs us, v = kval vs us ∧ vs.length = (chainO f).length ∧ (∀ (k : Nat) (c : Nat × Int × Sch) (x : GV), (chainO f)[k]? = some c → vs[k]? = some x → Rep RT O w ver flex c.2.2 b (o + c.1) x) ∧ RT O w b (o + endO f) us ∧ (chainO f ≠ [] → nU (chainO f) vs + us.length ≤ 4294967295)
  | .ktag off d f rest, v, hc, h => by
    have hc0 : isChain (.ktag off d f rest) = true := hc
    simp only [isChain] at hc
    cases v <;> simp only [Rep] at h <;> try exact h.elim
    rename_i v vs
    obtain ⟨vs', us, rfl, h2, h3, h4, -⟩ := rep_chain_inv hc h.2.1
    refine ⟨v :: vs', us, rfl, by simp [chainO, h2], fun k c x h1 hx => ?_, h4, fun _ => ?_⟩
    rotate_left
    · have e := kn_chain us (f := .ktag off d f rest) (vs := v :: vs') hc0 (by simp [chainO, h2])
      have e2 : kval (v :: vs') us = .cons v (kval vs' us) := rfl
      rw [← e, e2]
      exact h.2.2
    simp only [chainO] at h1
    cases k with
    | zero =>
      simp only [List.getElem?_cons_zero, Option.some.injEq] at h1 hx
      rw [← h1, ← hx]
      exact h.1
    | succ k => exact h3 k c x (by simpa using h1) (by simpa using hx)
  | .tags off, v, _, h => by
    cases v <;> simp only [Rep] at h <;> try exact h.elim
    rename_i l
    exact ⟨[], l, rfl, rfl, (fun k c x h1 _ => by simp [chainO] at h1), h, fun hne => absurd rfl hne⟩
  | .leaf _, _, hc, _ => by cases hc
  | .list _ _ _, _, hc, _ => by cases hc
  | .opt _, _, hc, _ => by cases hc
  | .done, _, hc, _ => by cases hc
  | .cons _ _ _ _ _, _, hc, _ => by cases hc
theorem kw_len (ver : Int) : ∀ (L : List (Nat × Int × Sch)) (i : Nat) (vs : List GV), (kw ver L i vs).length = nU L vs
  | [], _, _ => by simp [kw, nU]
  | _ :: _, _, [] => by simp [kw, nU]
  | (off, d, f) :: L, i, v :: vs => by
    simp only [kw, nU, List.length_append, kw_len ver L (i + 1) vs]
    split <;> simp
theorem kOut_len (l : List (Nat × List UInt8)) : (kOut l).length = (uv l.length).length + (apTags l).length := by
  unfold kOut
  rw [List.length_append]

section
variable {RT : RTags} {P : Program} {N nt : Nat} {w0 : World} {K : Slots} {lo t : Nat} {ver : Int} {strong : Bool}
theorem kw_each {s t2 k off T FEach r y1 y2 y3 y4 y5 y6 : Nat} {q1 q2 q3 q4 q5 q6 : String} {e1 e2 e3 e4 e5 e6 : Array Edge} {at1 : Array TypeId} {b o : Nat} {l : List (Nat × List UInt8)} (hT : FieldAt P T k off) (hE : Enters P FEach)
    (hE1 : ∀ (w : World) (v : Value) (bs : List UInt8), Below w0.heap.size w0 w → Own w0.heap.size w v bs → bs.length + (apTags l).length ≤ lim → Calls P FEach #[.pointer (some ⟨b, o + off, none⟩), v] w (Appended w0.heap.size w (bs ++ apTags l)))
    (hD : Dims N nt lo t) (hd : t ≤ t2 ∧ t2 + 4 < nt) :
    App P N nt w0 ((s, .pointer (some ⟨b, o, none⟩)) :: K) lo t (.region r #[⟨some t2, .move (.tmp s), y1, q1, e1, none⟩, ⟨some (t2 + 1), .nilCheck (.tmp t2), y2, q2, e2, none⟩, ⟨some (t2 + 2), .fieldAddr T (.tmp (t2 + 1)) k, y3, q3, e3, none⟩, ⟨some (t2 + 3), .move (.tmp 1), y4, q4, e4, none⟩,
      ⟨some (t2 + 4), .call { callee := .value (.func FEach), args := #[.tmp (t2 + 2), .tmp (t2 + 3)], argTypes := at1 }, y5, q5, e5, none⟩, ⟨some 1, .assign (.tmp (t2 + 4)), y6, q6, e6, none⟩] false) (apTags l) := by
  intro a w bs Q hst hh hl hq
  obtain ⟨d1, d2⟩ := hd
  have g1 := hD.dOne; have g2 := hD.dLo; have g3 := hD.dT; have g4 := hD.dN
  have hN := hst.size
  refine wp_reg ?_
  refine wl_move (v := .pointer (some ⟨b, o, none⟩)) hh.head ?_
  refine wl_nilCheck (aget_put_same _ _ _ (by omega)) ?_
  refine wl_fieldAddr hT (aget_put_same _ _ _ (by simp only [size_put]; omega)) ?_
  rw [Addr.add_lit]
  refine wl_move (v := aget a 1) (by rw [aget_put_other _ _ _ _ (by omega), aget_put_other _ _ _ _ (by omega), aget_put_other _ _ _ _ (by omega)]) ?_
  refine wl_call (R := Appended w0.heap.size w (bs ++ apTags l)) hE ?_ ?_
  · simp only [List.map_toArray, List.map_cons, List.map_nil, aget_eval]
    rw [aget_put_other _ _ _ _ (by omega), aget_put_same _ _ _ (by simp only [size_put]; omega), aget_put_same _ _ _ (by simp only [size_put]; omega)]
    exact hE1 w _ bs hst.below hst.own hl
  rintro e w' ⟨v', rfl, hown, hbel⟩
  refine ⟨v', rfl, ?_⟩
  refine wl_assign (aget_put_same _ _ _ (by simp only [size_put]; omega)) ?_
  refine wpList_nil (hq _ _ ⟨by simp only [size_put, hN], ?_, hst.below.trans hbel⟩ (((((((Fr.refl N lo t 1 a).put _ _ (by omega)).put _ _ (by omega)).put _ _ (by omega)).put _ _ (by omega)).put _ _ (by omega)).put _ _ (by omega)))
  rw [aget_put_same _ _ _ (by simp only [size_put]; omega)]
  exact hown
/-- The code behind the checks from tag i on: the tags E are to be written, and those that the checks will tell. -/
def KPreW (RT : RTags) (P : Program) (N nt : Nat) (ver : Int) (K : Slots) (lo t s te e : Nat) (L : List (Nat × Int × Sch)) (i : Nat) (Lr : List (Nat × Int × Sch)) (c : Code) : Prop :=
  ∀ (w0 : World) (b o : Nat) (us E : List (Nat × List UInt8)) (vs : List GV), EV RT ver w0 b o L E → E.length ≤ i → E.length + nU Lr vs + us.length ≤ 4294967295 → RT [] w0 b (o + e) us → vs.length = Lr.length →
    (∀ (k : Nat) (c : Nat × Int × Sch) (x : GV), Lr[k]? = some c → vs[k]? = some x → L[i + k]? = some c ∧ Rep RT [] w0 ver true c.2.2 b (o + c.1) x) →
    ∀ (a : Act) (w : World) (bs : List UInt8) (Q : Exit → Act → World → Prop), St nt w0 a w bs → Holds ((s, .pointer (some ⟨b, o, none⟩)) :: K) a → TE w0 w (aget a te) (E.map (·.1)) → Parted (aget a 1) (aget a te) →
      bs.length + (kOut (E ++ kw ver Lr i vs ++ us)).length ≤ lim → (∀ a' w', St nt w0 a' w' (bs ++ kOut (E ++ kw ver Lr i vs ++ us)) → Fr N lo t 1 a a' → Q .normal a' w') → c.wp P Q a w
theorem kpreW_cons {s te e i off : Nat} {d : Int} {f : Sch} {L Lr : List (Nat × Int × Sch)} {c1 c2 : Code} (hk : KOK N lo t ((s, .int .i64 0) :: K)) (hD : Dims N nt lo t) (hi : i < 1000)
    (h1 : KChk RT P N nt ver K lo t s te c1 off d f i) (h2 : KPreW RT P N nt ver K lo t s te e L (i + 1) Lr c2) : KPreW RT P N nt ver K lo t s te e L i ((off, d, f) :: Lr) (c1.seq c2) := by
  intro w0 b o us E vs hEV hEl hcnt hus hvs hrep a w bs Q hst hh hte hap hl hq
  cases vs with
  | nil => simp at hvs
  | cons v vs =>
    obtain ⟨hLi, hr0⟩ := hrep 0 (off, d, f) v rfl rfl
    have hks : KOK N lo t ((s, .pointer (some ⟨b, o, none⟩)) :: K) := fun p hp => by
      rcases List.mem_cons.1 hp with rfl | hp
      · exact hk (s, .int .i64 0) (by simp)
      · exact hk p (by simp [hp])
    refine wp_seq (h1 w0 b o v hr0 a w bs (E.map (·.1)) _ hst hh hte (by rw [List.length_map]; omega) hap fun a1 w1 hst1 hf1 hte1 hap1 => ?_)
    have eE : (E ++ (if usual f d v then [] else [(i, ap ver true f v)])).map (·.1) = E.map (·.1) ++ if usual f d v then [] else [i] := by
      cases usual f d v <;> simp
    have eO : E ++ (if usual f d v then [] else [(i, ap ver true f v)]) ++ kw ver Lr (i + 1) vs ++ us = E ++ kw ver ((off, d, f) :: Lr) i (v :: vs) ++ us := by
      simp [kw, List.append_assoc]
    simp only [Exit.then]
    refine h2 w0 b o us (E ++ if usual f d v then [] else [(i, ap ver true f v)]) vs ?_ ?_ ?_ hus (by simpa using hvs) (fun k c x hk1 hx => ?_) a1 w1 bs Q hst1 (hh.fr hks (hf1.to1 hD)) (by rw [eE]; exact hte1) hap1 (by rw [eO]; exact hl) fun a2 w2 k1 k2 => hq a2 w2 (by rw [eO] at k1; exact k1) ((hf1.to1 hD).trans k2)
    · intro x hx
      rcases List.mem_append.1 hx with hx | hx
      · exact hEV x hx
      · cases hu : usual f d v with
        | true => rw [hu] at hx; cases hx
        | false =>
          rw [hu] at hx
          simp only [Bool.false_eq_true, if_false, List.mem_singleton] at hx
          subst hx
          exact ⟨_, v, by simpa using hLi, hr0, rfl⟩
    · rw [List.length_append]
      cases usual f d v <;> simp <;> omega
    · simp only [nU] at hcnt
      rw [List.length_append]
      cases hu : usual f d v <;> rw [hu] at hcnt <;> simp at hcnt ⊢ <;> omega
    · obtain ⟨j1, j2⟩ := hrep (k + 1) c x (by simpa using hk1) (by simpa using hx)
      exact ⟨by rw [← j1]; congr 1; omega, j2⟩
theorem kpreW_end {s te e k1 k2 T1 T2 I I2 U UE J1 J2 J3 FLen FU FEach kx t1 t2 t3 t9 lo' t' B B' B2 r r1 r2 r3 r4 r5 r6 U2 T3 U3 x1 x2 x3 x4 x5 x6 x7 x8 x9 x10 x11 y1 y2 y3 y4 y5 y6 y7 y8 y9 y10 z1 z2 z3 z4 z5 z6 i : Nat}
    {p1 p2 p3 p4 p5 p6 p7 p8 p9 p10 p11 q1 q2 q3 q4 q5 q6 q7 q8 q9 q10 u1 u2 u3 u4 u5 u6 : String} {d1 d2 d3 d4 d5 d6 d7 d8 d9 d10 d11 e1 e2 e3 e4 e5 e6 e7 e8 e9 e10 g1 g2 g3 g4 g5 g6 : Array Edge} {at1 at2 at3 : Array TypeId} {sw : Code} {L : List (Nat × Int × Sch)}
    (hk : KOK N lo t ((s, .int .i64 0) :: K)) (hT1 : FieldAt P T1 k1 e) (hT2 : FieldAt P T2 k2 e) (hU : U32T P U) (hUE : OneCell P UE) (hI : P.underlying I = some (.int .i64)) (hI2 : P.underlying I2 = some (.int .u32)) (hL : Enters P FLen) (hV : Enters P FU) (hEe : Enters P FEach)
    (hTags : TagsOK RT P FLen FEach) (hUv : ∀ n : Nat, n ≤ 4294967295 → AppC P FU (.int .u32 n) (uv n)) (hUz : ∀ n : Nat, n ≤ 4294967295 → AppCZ P FU (.int .u32 n) (uv n)) (hD : Dims N nt lo t)
    (hd : t ≤ t1 ∧ t1 + 9 < nt ∧ te ≠ 1 ∧ te < N ∧ s < t1 ∧ t ≤ t3 ∧ t3 + 4 < nt) (hd2 : t ≤ t2 ∧ t2 + 6 < nt ∧ lo ≤ kx ∧ kx < N ∧ kx < lo' ∧ lo ≤ lo' ∧ t2 + 6 < t' ∧ t ≤ t' ∧ t' ≤ t9 ∧ t9 < nt ∧ te < N) (hB : B ≠ B' ∧ B ≠ B2)
    (hsw : SwW RT P N nt ver strong K lo' t' s (t2 + 6) 0 L sw) (hi : i ≤ 1000) (hstr : strong = true ∨ i ≤ 1) :
    KPreW RT P N nt ver K lo t s te e L i [] ((Code.region r #[⟨some t1, .move (.tmp 1), x1, p1, d1, none⟩, ⟨some (t1 + 1), .move (.tmp te), x2, p2, d2, none⟩, ⟨some (t1 + 2), .call { callee := .builtin .len, args := #[.tmp (t1 + 1)], argTypes := #[U] }, x3, p3, d3, none⟩,
      ⟨some (t1 + 3), .move (.tmp s), x4, p4, d4, none⟩, ⟨some (t1 + 4), .nilCheck (.tmp (t1 + 3)), x5, p5, d5, none⟩, ⟨some (t1 + 5), .fieldAddr T1 (.tmp (t1 + 4)) k1, x6, p6, d6, none⟩, ⟨some (t1 + 6), .call { callee := .value (.func FLen), args := #[.tmp (t1 + 5)], argTypes := at1 }, x7, p7, d7, none⟩,
      ⟨some (t1 + 7), .binOp .add J1 (.tmp (t1 + 2)) (.tmp (t1 + 6)) J2, x8, p8, d8, none⟩, ⟨some (t1 + 8), .convert I I2 (.tmp (t1 + 7)), x9, p9, d9, none⟩, ⟨some (t1 + 9), .call { callee := .value (.func FU), args := #[.tmp t1, .tmp (t1 + 8)], argTypes := at2 }, x10, p10, d10, none⟩,
      ⟨some 1, .assign (.tmp (t1 + 9)), x11, p11, d11, none⟩] false).seq
    (((Code.region r1 #[⟨some t2, .move (.tmp te), y1, q1, e1, none⟩, ⟨some (t2 + 1), .call { callee := .builtin .len, args := #[.tmp t2], argTypes := #[U] }, y2, q2, e2, none⟩, ⟨some (t2 + 2), .move (.const (.int .i64 0)), y3, q3, e3, none⟩] false).seq
      (.block B (.loop ((Code.region r2 #[⟨some (t2 + 3), .binOp .lss J3 (.tmp (t2 + 2)) (.tmp (t2 + 1)) U2, y4, q4, e4, none⟩] false).seq ((Code.cond (.tmp (t2 + 3)) .skip (.exit B)).seq
        ((Code.block B' ((Code.region r3 #[⟨some (t2 + 4), .indexAddr U (.tmp t2) (.tmp (t2 + 2)), y5, q5, e5, none⟩, ⟨some (t2 + 5), .load UE (.tmp (t2 + 4)), y6, q6, e6, none⟩, ⟨some kx, .assign (.tmp (t2 + 5)), y7, q7, e7, none⟩] false).seq
          ((Code.region r4 #[⟨some (t2 + 6), .move (.tmp kx), y8, q8, e8, none⟩] false).seq (.block B2 sw)))).seq
          (.region r5 #[⟨some t9, .binOp .add T3 (.tmp (t2 + 2)) (.const (.int .i64 1)) U3, y9, q9, e9, none⟩, ⟨some (t2 + 2), .move (.tmp t9), y10, q10, e10, none⟩] false))))))).seq
    (.region r6 #[⟨some t3, .move (.tmp s), z1, u1, g1, none⟩, ⟨some (t3 + 1), .nilCheck (.tmp t3), z2, u2, g2, none⟩, ⟨some (t3 + 2), .fieldAddr T2 (.tmp (t3 + 1)) k2, z3, u3, g3, none⟩, ⟨some (t3 + 3), .move (.tmp 1), z4, u4, g4, none⟩,
      ⟨some (t3 + 4), .call { callee := .value (.func FEach), args := #[.tmp (t3 + 2), .tmp (t3 + 3)], argTypes := at3 }, z5, u5, g5, none⟩, ⟨some 1, .assign (.tmp (t3 + 4)), z6, u6, g6, none⟩] false))) := by
  intro w0 b o us E vs hEV hEl hcnt hus hvs hrep a w bs Q hst hh hte hap hl hq
  obtain ⟨c1, c2, c3, c4, c5, c6, c7⟩ := hd
  have ekw : kw ver [] i vs = [] := rfl
  rw [ekw, List.append_nil] at hl hq
  obtain ⟨hlen, hL1, hE1⟩ := hTags w0 b (o + e) us hus
  have g1 := hD.dOne; have g2 := hD.dLo; have g3 := hD.dT; have g4 := hD.dN
  have hks : KOK N lo t ((s, .pointer (some ⟨b, o, none⟩)) :: K) := fun p hp => by
    rcases List.mem_cons.1 hp with rfl | hp
    · exact hk (s, .int .i64 0) (by simp)
    · exact hk p (by simp [hp])
  rw [kOut_len] at hl
  have eO : kOut (E ++ us) = uv ((E.map (·.1)).length + us.length) ++ (apTags E ++ apTags us) := by
    unfold kOut
    rw [apTags_app, List.length_append, List.length_map]
  have hl2 := hl
  rw [apTags_app, List.length_append, List.length_append] at hl2
  have hcnt' : E.length + us.length ≤ 4294967295 := by simpa [nU] using hcnt
  have eN : (E.map (·.1)).length = E.length := List.length_map _
  refine wp_seq (kw_count hT1 hU hI hI2 hL hV hL1 hUv hUz (by omega) hD ⟨c1, c2, c3, c4, c5⟩ a w bs _ hst hh.head hte hap (by rw [eN]; omega) fun a1 w1 hst1 hf1 hte1 hap1 => ?_)
  have ht1 : aget a1 te = aget a te := hf1.same te c3 (.inl c4)
  have hh1 := hh.fr hks (hf1.mono hD.dLo (Nat.le_refl _))
  simp only [Exit.then]
  refine wp_seq (kwloop hk hU hUE hD hd2 hB hsw hEV (by omega) (hstr.imp id fun h => by omega) a1 w1 _ _ hst1 hh1 ht1 hte1 hap1 (by rw [List.length_append, eN]; omega) fun a2 w2 hst2 hf2 => ?_)
  have hh2 := hh1.fr hks hf2
  simp only [Exit.then]
  refine kw_each hT2 hEe hE1 hD ⟨c6, c7⟩ a2 w2 _ _ hst2 hh2 (by simp only [List.length_append, eN]; omega) fun a3 w3 hst3 hf3 => hq a3 w3 ?_ (((hf1.mono hD.dLo (Nat.le_refl _)).trans hf2).trans hf3)
  rw [eO]
  simpa only [List.append_assoc] using hst3
/-- The end of a part with known tags. -/
theorem appS_ktags {s sf te t0 r0 r1 y1 y2 off : Nat} {d : Int} {q1 q2 : String} {e1 e2 : Array Edge} {c : Code} {f rest : Sch} {flex : Bool} (hk : KOK N lo t ((s, .int .i64 0) :: K)) (hf : (sf, Value.bool flex) ∈ K) (hD : Dims N nt lo t) (hd : t ≤ t0 ∧ t0 < nt ∧ lo ≤ te ∧ te < N) (hch : isChain rest = true)
    (h : flex = true → KPreW RT P N nt ver K lo t s te (endO rest) (chainO (.ktag off d f rest)) 0 (chainO (.ktag off d f rest)) c) :
    AppS RT P N nt ver flex K lo t s ((Code.region r0 #[⟨some t0, .move (.tmp sf), y1, q1, e1, none⟩] false).seq (.cond (.tmp t0) ((Code.region r1 #[⟨some te, .assign (.const (.slice none 0 0)), y2, q2, e2, none⟩] false).seq c) .skip)) (.ktag off d f rest) := by
  intro w0 b o v hr
  have hks : KOK N lo t ((s, .pointer (some ⟨b, o, none⟩)) :: K) := fun p hp => by
    rcases List.mem_cons.1 hp with rfl | hp
    · exact hk (s, .int .i64 0) (by simp)
    · exact hk p (by simp [hp])
  have g1 := hD.dOne; have g2 := hD.dLo; have g3 := hD.dT; have g4 := hD.dN
  obtain ⟨d1, d2, d3, d4⟩ := hd
  have hch' : isChain (.ktag off d f rest) = true := hch
  refine app_flag hks (List.mem_cons_of_mem _ hf) hD ⟨d1, d2⟩ (fun hfl => ?_) (fun hfl => ?_)
  · subst hfl
    obtain ⟨vs, us, rfl, h2, h3, h4, h5⟩ := rep_chain_inv hch' hr
    rw [ap_kw ver us hch h2]
    intro a w bs Q hst hh hl hq
    refine wp_seq (wp_reg (wl_assign_c (wpList_nil ?_)))
    have hf1 : Fr N lo t nt a (a.put (some te) (.slice none 0 0)) := (Fr.refl N lo t nt a).put _ _ (by omega)
    have hx : aget (a.put (some te) (.slice none 0 0)) te = .slice none 0 0 := aget_put_same _ _ _ (by rw [hst.size]; omega)
    simp only [Exit.then]
    refine h rfl w0 b o us [] vs (fun e he => nomatch he) (Nat.le_refl _) (by simpa using h5 (by simp [chainO])) h4 h2 (fun k c x h1 hx => ⟨by simpa using h1, h3 k c x h1 hx⟩) _ w bs Q (hst.fr hf1 hD) (hh.fr hks (hf1.to1 hD)) (by rw [hx]; exact te_nil w0 w) (by rw [hx]; exact fun z hz => nomatch hz) (by simpa using hl) fun a2 w2 k1 k2 => hq a2 w2 (by simpa using k1) ((hf1.to1 hD).trans k2)
  · subst hfl
    refine App.skip.of_eq ?_
    cases v <;> simp [ap]
end
end Go.Proofs.YtmpilpgabelmiaaGreatDoor

/- Known tags, written: what the derivations call. -/
namespace Go.Proofs.YtmpilpgabelmiaaGreatDoor
open Go Go.RowKit
set_option linter.unusedVariables false

theorem uvZ (n : Int) (m : Nat) (e : n = m) (h : m ≤ 4294967295) : AppCZ Tryz.prog 42 (.int .u32 n) (uv m) := e ▸ appendUvarintZ m h
theorem uvZall : ∀ n : Nat, n ≤ 4294967295 → AppCZ Tryz.prog 42 (.int .u32 n) (uv n) := fun n h => appendUvarintZ n h
theorem uv_ne (n : Nat) : uv n ≠ [] := fun h => by
  have := uv_pos n
  rw [h] at this
  simp at this
section
variable {RT : RTags} {P : Program} {N nt : Nat} {K : Slots} {lo t : Nat} {ver : Int}
theorem hx_leaf {v : Nat} {c : Code} {lf : Leaf} (hlf : lf ≠ .uuid) (h : AppL P N nt ver true K lo t v c lf) : ∀ (w0 : World) (b o : Nat) (g : GV), Rep RT [] w0 ver true (.leaf lf) b o g →
    ∃ x, w0.cell? ⟨b, o, none⟩ = some x ∧ AppK P N nt w0 ((v, x) :: K) lo t (fun R => c.seq R) (ap ver true (.leaf lf) g) := by
  intro w0 b o g hrep
  obtain ⟨x, hc⟩ := RepLeaf.hasCell hrep hlf
  exact ⟨x, hc, appK_one (h w0 b o x g hrep hc)⟩
theorem hx_list {v esz : Nat} {c1 c2 : Code} {e : Sch} (hk : KOK N lo t K) (hv : v ≠ 1 ∧ v < lo) (hlen : AppLen P N nt true K lo t v c1 none) (hr : AppRange RT P N nt ver true K lo t v c2 esz e) : ∀ (w0 : World) (b o : Nat) (g : GV), Rep RT [] w0 ver true (.list none esz e) b o g →
    ∃ x, w0.cell? ⟨b, o, none⟩ = some x ∧ AppK P N nt w0 ((v, x) :: K) lo t (fun R => c1.seq (c2.seq R)) (ap ver true (.list none esz e) g) := by
  intro w0 b o g hrep
  cases g <;> simp only [Rep] at hrep <;> try exact hrep.elim
  · exact absurd hrep.1 (by simp)
  · rename_i l
    obtain ⟨ad, cap, hc, hlen', hns, hel⟩ := hrep
    refine ⟨_, hc, appK_two (hk.cons ⟨hv.1, .inl hv.2⟩) (hlen w0 ad l.length cap hlen' (.inl rfl)) (hr w0 l ad cap hlen' fun hne => ?_)⟩
    obtain ⟨p, q, h1, -, h2, h3⟩ := hel hne
    exact ⟨p, q, h1, h2, h3⟩
end
theorem hz_i64 {N nt lo t t1 r ty1 ty2 ty3 ty4 b o v : Nat} {p1 p2 p3 p4 : String} {e1 e2 e3 e4 : Array Edge} {at_ : Array TypeId} {K : Slots} {w0 : World} {ver : Int} {x : Value} {g : GV} (he : Enters Tryz.prog 33) (hD : Dims N nt lo t) (hd : t ≤ t1 ∧ t1 + 2 < nt ∧ v ≠ t1)
    (hr : RepLeaf [] w0 true b o .i64 g) (hc : w0.cell? ⟨b, o, none⟩ = some x) :
    (apLeaf ver true .i64 g).length = 8 ∧ AppZ Tryz.prog N nt w0 ((v, x) :: K) lo t (Code.region r #[⟨some t1, .move (.tmp 1), ty1, p1, e1, none⟩, ⟨some (t1 + 1), .move (.tmp v), ty2, p2, e2, none⟩,
      ⟨some (t1 + 2), .call { callee := .value (.func 33), args := #[.tmp t1, .tmp (t1 + 1)], argTypes := at_ }, ty3, p3, e3, none⟩, ⟨some 1, .assign (.tmp (t1 + 2)), ty4, p4, e4, none⟩] false) (apLeaf ver true .i64 g) := by
  cases g <;> simp only [RepLeaf] at hr
  rename_i m
  have hx := hr
  rw [hc] at hx
  cases hx
  exact ⟨be64_length _, kw_slot he (appendInt64Z m) hD hd⟩
theorem hz_i16 {N nt lo t t1 r ty1 ty2 ty3 ty4 b o v : Nat} {p1 p2 p3 p4 : String} {e1 e2 e3 e4 : Array Edge} {at_ : Array TypeId} {K : Slots} {w0 : World} {ver : Int} {x : Value} {g : GV} (he : Enters Tryz.prog 32) (hD : Dims N nt lo t) (hd : t ≤ t1 ∧ t1 + 2 < nt ∧ v ≠ t1)
    (hr : RepLeaf [] w0 true b o .i16 g) (hc : w0.cell? ⟨b, o, none⟩ = some x) :
    (apLeaf ver true .i16 g).length = 2 ∧ AppZ Tryz.prog N nt w0 ((v, x) :: K) lo t (Code.region r #[⟨some t1, .move (.tmp 1), ty1, p1, e1, none⟩, ⟨some (t1 + 1), .move (.tmp v), ty2, p2, e2, none⟩,
      ⟨some (t1 + 2), .call { callee := .value (.func 32), args := #[.tmp t1, .tmp (t1 + 1)], argTypes := at_ }, ty3, p3, e3, none⟩, ⟨some 1, .assign (.tmp (t1 + 2)), ty4, p4, e4, none⟩] false) (apLeaf ver true .i16 g) := by
  cases g <;> simp only [RepLeaf] at hr
  rename_i m
  have hx := hr.1
  rw [hc] at hx
  cases hx
  exact ⟨be16_length _, kw_slot he (appendInt16Z m hr.2.1 hr.2.2) hD hd⟩
end Go.Proofs.YtmpilpgabelmiaaGreatDoor

/- The reference with tags, as plain functions: a message's own fields. No program in sight. -/
namespace Go.Proofs.YtmpilpgabelmiaaGreatDoor

/-- Is a field as it is by default? (Numbers; lists.) -/
def usualT (k df : Int) (t : Tree) : Bool := if k = 11 then t.l.isEmpty else decide (fixed t.n (pWidth k) = fixed df (pWidth k))
/-- The field of a known tag, where it is written: among fields, from the i-th on. -/
def pOne (ver : Int) (flex : Bool) (k : Nat) : PFs → Nat → Tree → List (Nat × List UInt8)
  | .nil, _, _ => []
  | .cons kk _ _ nu tg df ok sub rest, i, t => (if tg = (k : Int) ∧ usualT kk df (atT t i) = false then [(k, pField ver flex kk nu ok (pPart ver flex sub) (atT t i))] else []) ++ pOne ver flex k rest (i + 1) t
/-- The known tags below n that are written. -/
def pKn (ver : Int) (flex : Bool) (fs : PFs) (n : Nat) (t : Tree) : List (Nat × List UInt8) := (List.range n).flatMap fun k => pOne ver flex k fs 0 t
/-- The unknown tags: those from number kN on, by rising numbers, each once. -/
def unkToN (kN n : Nat) (l : List (Nat × List UInt8)) : List (Nat × List UInt8) := ((l.take n).filter fun t => decide (kN ≤ t.1)).foldl (fun acc t => insU t.1 t.2 acc) []
def unkN (kN : Nat) (l : List (Nat × List UInt8)) : List (Nat × List UInt8) := ((l.take 32767).filter fun t => decide (kN ≤ t.1)).foldl (fun acc t => insU t.1 t.2 acc) []
/-- A known tag, as it is written. -/
def kTag (t : Nat × List UInt8) : List UInt8 := uv t.1 ++ uv t.2.length ++ t.2
/-- The greatest tag, and one more. -/
def PFs.known : PFs → Nat
  | .nil => 0
  | .cons _ _ _ _ tg _ _ _ rest => max (if 0 ≤ tg then tg.toNat + 1 else 0) rest.known
def pTailT (ver : Int) (flex : Bool) (fs : PFs) (t : Tree) : List UInt8 :=
  if flex then uv ((pKn ver true fs fs.known t).length + (unkN fs.known t.u).length) ++ (pKn ver true fs fs.known t).flatMap kTag ++ (unkN fs.known t.u).flatMap pTag else []
/-- What is written of a message's fields. -/
def pPartT (ver : Int) (flex : Bool) (fs : PFs) (t : Tree) : List UInt8 := pFields ver flex fs 0 t ++ pTailT ver flex fs t
end Go.Proofs.YtmpilpgabelmiaaGreatDoor
