/- What kbin writes: each function appends just these bytes to bytes of the call's own. -/
import Derived.Test.YtkhpglongkhbjaaProg
import Derived.Test.YtkhpglongkhbjaaAppend
import Derived.Test.YtkhpglongkhbjaaPure
import Derived.Test.YtkhpglongkhbjaaShelf
import Derived.Lib.ItoaNum
import Derived.Lib.Hide
namespace Go.Proofs.Ytkhpglongkhbjaa
open Go Go.RowKit
set_option linter.unusedVariables false

/-- The ending of a function that appends: the bytes bs, of the call's own; below base nothing has turned. -/
def Appended (base : Nat) (w : World) (bs : List UInt8) (e : Ending) (w' : World) : Prop := ∃ v', e = .returned v' ∧ Own base w' v' bs ∧ Below base w w'
/-- Function f, with one argument behind the bytes, appends new. -/
def AppC (P : Program) (f : Nat) (arg : Value) (new : List UInt8) : Prop :=
  ∀ (base : Nat) (w : World) (v : Value) (bs : List UInt8), Own base w v bs → base ≤ w.heap.size → bs.length + new.length ≤ lim → Calls P f #[v, arg] w (Appended base w (bs ++ new))
/-- The same of an argument that lies in memory. -/
def AppM (P : Program) (f : Nat) (pre : World → Value → List UInt8 → Prop) : Prop :=
  ∀ (arg : Value) (new : List UInt8) (base : Nat) (w : World) (v : Value) (bs : List UInt8), pre w arg new → Own base w v bs → base ≤ w.heap.size → bs.length + new.length ≤ lim → Calls P f #[v, arg] w (Appended base w (bs ++ new))
theorem Appended.mk {base : Nat} {w : World} {bs : List UInt8} {v' : Value} {w' : World} (h : Own base w' v' bs) (hb : Below base w w') : Appended base w bs (.returned v') w' := ⟨v', rfl, h, hb⟩

theorem Try.bytesInfo : (Try.prog.info? 5).map (fun i => (i.zero, i.size, i.bytes)) = some (some (.int .u8 0), 1, 1) := by kernel_rfl
theorem bt : BytesT Try.prog 28 5 := ⟨Try.underlying28, info_parts Try.bytesInfo, Try.underlying5⟩
theorem byteV_bb (n : Int) : byteV (bb n) = Value.int .u8 (n % 256) := by
  unfold byteV bb
  congr 1
  simp
  omega
theorem byteV_nat {n : Nat} (h : n < 256) : byteV (UInt8.ofNat n) = Value.int .u8 (n : Int) := by
  unfold byteV
  congr 1
  simp
  omega

set_option maxHeartbeats 400000 in
theorem appendInt8 (x : Int) (h0 : -128 ≤ x) (h1 : x ≤ 127) : AppC Try.prog 25 (.int .i8 x) [bb x] := by
  intro base w v bs hown hb hl
  go_enter Try.func25, Try.ntmps25
  go_wp2_with (at_builtin; refine halted ?_)
  refine wpl_append_bytes bt rfl _ _ rfl base bs hown hb _ [bb x] ?_ rfl hl ?_
  · simp only [List.map_cons, List.map_nil, byteV_bb]
  intro v' w' hown' hbel
  go_wp2
  go_ret
  exact .mk hown' hbel
set_option maxHeartbeats 400000 in
theorem appendUint16 (x : Int) (h0 : 0 ≤ x) (h1 : x ≤ 65535) : AppC Try.prog 51 (.int .u16 x) (be16 x) := by
  intro base w v bs hown hb hl
  go_enter Try.func51, Try.ntmps51
  go_wp2_with (at_builtin; refine halted ?_)
  refine wpl_append_bytes bt rfl _ _ rfl base bs hown hb _ (be16 x) ?_ rfl hl ?_
  · have e : x / 256 % 256 = x / 256 := by omega
    simp only [be16, List.map_cons, List.map_nil, byteV_bb, e]
  intro v' w' hown' hbel
  go_wp2
  go_ret
  exact .mk hown' hbel
set_option maxHeartbeats 400000 in
theorem appendInt16 (x : Int) (h0 : -32768 ≤ x) (h1 : x ≤ 32767) : AppC Try.prog 40 (.int .i16 x) (be16 x) := by
  intro base w v bs hown hb hl
  go_enter Try.func40, Try.ntmps40
  go_wp2_with fail
  refine (appendUint16 (x % 65536) (by omega) (by omega) base w v bs hown hb hl).mono ?_
  rintro e w' ⟨v', rfl, hown', hbel⟩
  rw [be16_mod] at hown'
  go_wp2
  go_ret
  exact .mk hown' hbel
set_option maxRecDepth 100000 in
set_option maxHeartbeats 400000 in
theorem appendUint32 (x : Int) (h0 : 0 ≤ x) (h1 : x ≤ 4294967295) : AppC Try.prog 41 (.int .u32 x) (be32 x) := by
  intro base w v bs hown hb hl
  go_enter Try.func41, Try.ntmps41
  go_wp2_with (at_builtin; refine halted ?_)
  refine wpl_append_bytes bt rfl _ _ rfl base bs hown hb _ (be32 x) ?_ rfl hl ?_
  · have e : x / 16777216 % 256 = x / 16777216 := by omega
    simp only [be32, List.map_cons, List.map_nil, byteV_bb, e]
  intro v' w' hown' hbel
  go_wp2
  go_ret
  exact .mk hown' hbel
set_option maxRecDepth 100000 in
set_option maxHeartbeats 400000 in
theorem appendInt32 (x : Int) (h0 : -2147483648 ≤ x) (h1 : x ≤ 2147483647) : AppC Try.prog 22 (.int .i32 x) (be32 x) := by
  intro base w v bs hown hb hl
  go_enter Try.func22, Try.ntmps22
  go_wp2_with fail
  refine (appendUint32 (x % 4294967296) (by omega) (by omega) base w v bs hown hb hl).mono ?_
  rintro e w' ⟨v', rfl, hown', hbel⟩
  rw [be32_mod] at hown'
  go_wp2
  go_ret
  exact .mk hown' hbel
set_option maxRecDepth 100000 in
set_option maxHeartbeats 400000 in
theorem appendArrayLen (n : Nat) (hn : n ≤ 2147483647) : AppC Try.prog 24 (.int .i64 n) (be32 n) := by
  intro base w v bs hown hb hl
  go_enter Try.func24, Try.ntmps24
  go_wp2_with fail
  refine (appendInt32 n (by omega) (by omega) base w v bs hown hb hl).mono ?_
  rintro e w' ⟨v', rfl, hown', hbel⟩
  go_wp2
  go_ret
  exact .mk hown' hbel
/-- How many octets a number in groups of seven bits has. -/
def ulen (u : Int) : Int := if u < 128 then 1 else if u < 16384 then 2 else if u < 2097152 then 3 else if u < 268435456 then 4 else 5
def lenTab (k : Nat) : Int := if k < 8 then 1 else if k < 15 then 2 else if k < 22 then 3 else if k < 29 then 4 else 5
theorem ulen_tab (u : Int) (h0 : 0 ≤ u) (h1 : u ≤ 4294967295) : ulen u = lenTab (Lib.bitLen u.toNat) ∧ Lib.bitLen u.toNat ≤ 32 := by
  by_cases hz : u.toNat = 0
  · rw [hz]
    have : u = 0 := by omega
    subst this
    exact ⟨by decide, by decide⟩
  · obtain ⟨h2, h3, h4⟩ := Lib.bitLenAux_bounds 64 u.toNat (by omega) hz
    change 1 ≤ Lib.bitLen u.toNat at h2
    change 2 ^ (Lib.bitLen u.toNat - 1) ≤ u.toNat at h3
    change u.toNat < 2 ^ Lib.bitLen u.toNat at h4
    generalize Lib.bitLen u.toNat = k at *
    have hk : k ≤ 32 := by
      by_cases h : k ≤ 32
      · exact h
      · have := Nat.pow_le_pow_right (n := 2) (by omega) (show 32 ≤ k - 1 by omega)
        omega
    refine ⟨?_, hk⟩
    have hc : k = 0 ∨ k = 1 ∨ k = 2 ∨ k = 3 ∨ k = 4 ∨ k = 5 ∨ k = 6 ∨ k = 7 ∨ k = 8 ∨ k = 9 ∨ k = 10 ∨ k = 11 ∨ k = 12 ∨ k = 13 ∨ k = 14 ∨ k = 15 ∨ k = 16 ∨ k = 17 ∨ k = 18 ∨ k = 19 ∨ k = 20 ∨ k = 21 ∨ k = 22 ∨ k = 23 ∨ k = 24 ∨ k = 25 ∨ k = 26 ∨ k = 27 ∨ k = 28 ∨ k = 29 ∨ k = 30 ∨ k = 31 ∨ k = 32 := by omega
    clear hk
    unfold ulen lenTab
    rcases hc with rfl | rfl | rfl | rfl | rfl | rfl | rfl | rfl | rfl | rfl | rfl | rfl | rfl | rfl | rfl | rfl | rfl | rfl | rfl | rfl | rfl | rfl | rfl | rfl | rfl | rfl | rfl | rfl | rfl | rfl | rfl | rfl | rfl <;> (simp at h3 h4 ⊢; omega)
set_option maxRecDepth 100000 in
set_option maxHeartbeats 400000 in
theorem uvarintLen0 (w : World) (u : Int) (h0 : 0 ≤ u) (h1 : u ≤ 4294967295) (k : Nat) (hk : Lib.bitLen u.toNat = k) (hk32 : k ≤ 32) : Calls Try.prog 42 #[.int .u32 u] w fun e w' => e = .returned (.int .i64 (lenTab k)) ∧ w = w' := by
  have hc := Try.bits_Len32 u w h0 h1
  rw [hk] at hc
  have HC := Lib.hid hc
  clear hc hk
  go_enter Try.func42, Try.ntmps42
  go_wp2_with fail
  refine HC.out.mono ?_
  rintro e w' ⟨rfl, rfl⟩
  clear HC
  go_wp2
  go_ret
  refine ⟨?_, rfl⟩
  have hc : k = 0 ∨ k = 1 ∨ k = 2 ∨ k = 3 ∨ k = 4 ∨ k = 5 ∨ k = 6 ∨ k = 7 ∨ k = 8 ∨ k = 9 ∨ k = 10 ∨ k = 11 ∨ k = 12 ∨ k = 13 ∨ k = 14 ∨ k = 15 ∨ k = 16 ∨ k = 17 ∨ k = 18 ∨ k = 19 ∨ k = 20 ∨ k = 21 ∨ k = 22 ∨ k = 23 ∨ k = 24 ∨ k = 25 ∨ k = 26 ∨ k = 27 ∨ k = 28 ∨ k = 29 ∨ k = 30 ∨ k = 31 ∨ k = 32 := by omega
  rcases hc with rfl | rfl | rfl | rfl | rfl | rfl | rfl | rfl | rfl | rfl | rfl | rfl | rfl | rfl | rfl | rfl | rfl | rfl | rfl | rfl | rfl | rfl | rfl | rfl | rfl | rfl | rfl | rfl | rfl | rfl | rfl | rfl | rfl <;> (refine congrArg (fun x => Ending.returned (Value.int .i64 x)) ?_; simp [lenTab, ByteArray.getElem_eq_getElem_data, wrap64])
theorem uvarintLen (w : World) (u : Int) (h0 : 0 ≤ u) (h1 : u ≤ 4294967295) : Calls Try.prog 42 #[.int .u32 u] w fun e w' => e = .returned (.int .i64 (ulen u)) ∧ w = w' := by
  obtain ⟨ht, hk32⟩ := ulen_tab u h0 h1
  rw [ht]
  exact uvarintLen0 w u h0 h1 _ rfl hk32
theorem bv_and127 (n : Nat) (h : n < 4294967296) : (BitVec.ofNat 32 n &&& BitVec.ofNat 32 127).toNat = n % 128 := by
  have e := Nat.and_two_pow_sub_one_eq_mod n 7
  rw [BitVec.toNat_and, BitVec.toNat_ofNat, BitVec.toNat_ofNat, Nat.mod_eq_of_lt h]
  exact e
theorem bv_or128 (n : Nat) (h : n < 128) : (BitVec.ofNat 32 n ||| BitVec.ofNat 32 128).toNat = n + 128 := by
  have e := Nat.two_pow_add_eq_or_of_lt (i := 7) (b := n) h 1
  rw [BitVec.toNat_or, BitVec.toNat_ofNat, BitVec.toNat_ofNat, Nat.mod_eq_of_lt (by omega), Nat.or_comm]
  simp at e ⊢
  omega
theorem and127 (n : Nat) (h : n < 4294967296) : bits BinOp.and IntKind.u32 (n : Int) 127 = ((n % 128 : Nat) : Int) := by
  have e := bv_and127 n h
  have e2 : bits BinOp.and IntKind.u32 (n : Int) 127 = IntKind.u32.wrap (((BitVec.ofNat 32 n &&& BitVec.ofNat 32 127).toNat : Nat) : Int) := by
    unfold bits
    rfl
  rw [e2, e, IntKind.wrap_u32]
  omega
theorem or128 (n : Nat) (h : n < 128) : bits BinOp.or IntKind.u32 (n : Int) 128 = ((n + 128 : Nat) : Int) := by
  have e := bv_or128 n h
  have e2 : bits BinOp.or IntKind.u32 (n : Int) 128 = IntKind.u32.wrap (((BitVec.ofNat 32 n ||| BitVec.ofNat 32 128).toNat : Nat) : Int) := by
    unfold bits
    rfl
  rw [e2, e, IntKind.wrap_u32]
  omega
theorem seven (n : Nat) (h : n < 4294967296) : bits BinOp.or IntKind.u32 (bits BinOp.and IntKind.u32 (n : Int) 127) 128 % 256 = ((n % 128 + 128 : Nat) : Int) := by
  rw [and127 n h, or128 (n % 128) (by omega)]
  omega
set_option maxRecDepth 100000 in
set_option maxHeartbeats 1000000 in
theorem appendUvarint1 (n : Nat) (h0 : 0 ≤ n) (h1 : n ≤ 127) : AppC Try.prog 28 (.int .u32 n) (uv n) := by
  intro base w v bs hown hb hl
  have hu : ulen n = 1 := by unfold ulen; split <;> (try split) <;> (try split) <;> (try split) <;> omega
  rw [uv1 (by omega)] at hl ⊢
  go_enter Try.func28, Try.ntmps28
  go_wp2_with fail
  refine (uvarintLen w n (by omega) (by omega)).mono ?_
  rintro e w' ⟨rfl, rfl⟩
  rw [hu]
  clear hu
  go_wp2_with (at_builtin; refine halted ?_)
  refine wpl_append_bytes bt rfl _ _ rfl base bs hown hb _ [UInt8.ofNat n] ?_ rfl hl ?_
  · simp only [List.map_cons, List.map_nil, byteV_nat (show n < 256 by omega)]
    all_goals rfl
  intro v' w' hown' hbel
  go_wp2
  go_ret
  exact .mk hown' hbel
set_option maxRecDepth 100000 in
set_option maxHeartbeats 1000000 in
theorem appendUvarint2 (n : Nat) (h0 : 128 ≤ n) (h1 : n ≤ 16383) : AppC Try.prog 28 (.int .u32 n) (uv n) := by
  intro base w v bs hown hb hl
  have hu : ulen n = 2 := by unfold ulen; split <;> (try split) <;> (try split) <;> (try split) <;> omega
  rw [uv2 (by omega) (by omega)] at hl ⊢
  go_enter Try.func28, Try.ntmps28
  go_wp2_with fail
  refine (uvarintLen w n (by omega) (by omega)).mono ?_
  rintro e w' ⟨rfl, rfl⟩
  rw [hu]
  clear hu
  go_wp2_with (at_builtin; refine halted ?_)
  refine wpl_append_bytes bt rfl _ _ rfl base bs hown hb _ [UInt8.ofNat (n % 128 + 128), UInt8.ofNat (n / 128)] ?_ rfl hl ?_
  · simp only [List.map_cons, List.map_nil, byteV_nat (show n % 128 + 128 < 256 by omega), byteV_nat (show n / 128 < 256 by omega)]
    rw [show ((n : Int) / 128) = ((n / 128 : Nat) : Int) by omega, seven (n) (by omega)]
  intro v' w' hown' hbel
  go_wp2
  go_ret
  exact .mk hown' hbel
set_option maxRecDepth 100000 in
set_option maxHeartbeats 1000000 in
theorem appendUvarint3 (n : Nat) (h0 : 16384 ≤ n) (h1 : n ≤ 2097151) : AppC Try.prog 28 (.int .u32 n) (uv n) := by
  intro base w v bs hown hb hl
  have hu : ulen n = 3 := by unfold ulen; split <;> (try split) <;> (try split) <;> (try split) <;> omega
  rw [uv3 (by omega) (by omega)] at hl ⊢
  go_enter Try.func28, Try.ntmps28
  go_wp2_with fail
  refine (uvarintLen w n (by omega) (by omega)).mono ?_
  rintro e w' ⟨rfl, rfl⟩
  rw [hu]
  clear hu
  go_wp2_with (at_builtin; refine halted ?_)
  refine wpl_append_bytes bt rfl _ _ rfl base bs hown hb _ [UInt8.ofNat (n % 128 + 128), UInt8.ofNat (n / 128 % 128 + 128), UInt8.ofNat (n / 16384)] ?_ rfl hl ?_
  · simp only [List.map_cons, List.map_nil, byteV_nat (show n % 128 + 128 < 256 by omega), byteV_nat (show n / 128 % 128 + 128 < 256 by omega), byteV_nat (show n / 16384 < 256 by omega)]
    rw [show ((n : Int) / 128) = ((n / 128 : Nat) : Int) by omega, show ((n : Int) / 16384) = ((n / 16384 : Nat) : Int) by omega, seven (n) (by omega), seven (n / 128) (by omega)]
  intro v' w' hown' hbel
  go_wp2
  go_ret
  exact .mk hown' hbel
set_option maxRecDepth 100000 in
set_option maxHeartbeats 1000000 in
theorem appendUvarint4 (n : Nat) (h0 : 2097152 ≤ n) (h1 : n ≤ 268435455) : AppC Try.prog 28 (.int .u32 n) (uv n) := by
  intro base w v bs hown hb hl
  have hu : ulen n = 4 := by unfold ulen; split <;> (try split) <;> (try split) <;> (try split) <;> omega
  rw [uv4 (by omega) (by omega)] at hl ⊢
  go_enter Try.func28, Try.ntmps28
  go_wp2_with fail
  refine (uvarintLen w n (by omega) (by omega)).mono ?_
  rintro e w' ⟨rfl, rfl⟩
  rw [hu]
  clear hu
  go_wp2_with (at_builtin; refine halted ?_)
  refine wpl_append_bytes bt rfl _ _ rfl base bs hown hb _ [UInt8.ofNat (n % 128 + 128), UInt8.ofNat (n / 128 % 128 + 128), UInt8.ofNat (n / 16384 % 128 + 128), UInt8.ofNat (n / 2097152)] ?_ rfl hl ?_
  · simp only [List.map_cons, List.map_nil, byteV_nat (show n % 128 + 128 < 256 by omega), byteV_nat (show n / 128 % 128 + 128 < 256 by omega), byteV_nat (show n / 16384 % 128 + 128 < 256 by omega), byteV_nat (show n / 2097152 < 256 by omega)]
    rw [show ((n : Int) / 128) = ((n / 128 : Nat) : Int) by omega, show ((n : Int) / 16384) = ((n / 16384 : Nat) : Int) by omega, show ((n : Int) / 2097152) = ((n / 2097152 : Nat) : Int) by omega, seven (n) (by omega), seven (n / 128) (by omega), seven (n / 16384) (by omega)]
  intro v' w' hown' hbel
  go_wp2
  go_ret
  exact .mk hown' hbel
set_option maxRecDepth 100000 in
set_option maxHeartbeats 1000000 in
theorem appendUvarint5 (n : Nat) (h0 : 268435456 ≤ n) (h1 : n ≤ 4294967295) : AppC Try.prog 28 (.int .u32 n) (uv n) := by
  intro base w v bs hown hb hl
  have hu : ulen n = 5 := by unfold ulen; split <;> (try split) <;> (try split) <;> (try split) <;> omega
  rw [uv5 (by omega) (by omega)] at hl ⊢
  go_enter Try.func28, Try.ntmps28
  go_wp2_with fail
  refine (uvarintLen w n (by omega) (by omega)).mono ?_
  rintro e w' ⟨rfl, rfl⟩
  rw [hu]
  clear hu
  go_wp2_with (at_builtin; refine halted ?_)
  refine wpl_append_bytes bt rfl _ _ rfl base bs hown hb _ [UInt8.ofNat (n % 128 + 128), UInt8.ofNat (n / 128 % 128 + 128), UInt8.ofNat (n / 16384 % 128 + 128), UInt8.ofNat (n / 2097152 % 128 + 128), UInt8.ofNat (n / 268435456)] ?_ rfl hl ?_
  · simp only [List.map_cons, List.map_nil, byteV_nat (show n % 128 + 128 < 256 by omega), byteV_nat (show n / 128 % 128 + 128 < 256 by omega), byteV_nat (show n / 16384 % 128 + 128 < 256 by omega), byteV_nat (show n / 2097152 % 128 + 128 < 256 by omega), byteV_nat (show n / 268435456 < 256 by omega)]
    rw [show ((n : Int) / 128) = ((n / 128 : Nat) : Int) by omega, show ((n : Int) / 16384) = ((n / 16384 : Nat) : Int) by omega, show ((n : Int) / 2097152) = ((n / 2097152 : Nat) : Int) by omega, show ((n : Int) / 268435456) = ((n / 268435456 : Nat) : Int) by omega, seven (n) (by omega), seven (n / 128) (by omega), seven (n / 16384) (by omega), seven (n / 2097152) (by omega)]
  intro v' w' hown' hbel
  go_wp2
  go_ret
  exact .mk hown' hbel
theorem appendUvarint (n : Nat) (h : n ≤ 4294967295) : AppC Try.prog 28 (.int .u32 n) (uv n) := by
  by_cases h1 : n ≤ 127
  · exact appendUvarint1 n (by omega) h1
  by_cases h2 : n ≤ 16383
  · exact appendUvarint2 n (by omega) h2
  by_cases h3 : n ≤ 2097151
  · exact appendUvarint3 n (by omega) h3
  by_cases h4 : n ≤ 268435455
  · exact appendUvarint4 n (by omega) h4
  · exact appendUvarint5 n (by omega) h
theorem appendUvarintI (n : Int) (m : Nat) (e : n = m) (h : m ≤ 4294967295) : AppC Try.prog 28 (.int .u32 n) (uv m) := e ▸ appendUvarint m h
set_option maxRecDepth 100000 in
set_option maxHeartbeats 400000 in
theorem appendCompactArrayLen (n : Nat) (hn : n ≤ 2147483647) : AppC Try.prog 23 (.int .i64 n) (uv (n + 1)) := by
  intro base w v bs hown hb hl
  go_enter Try.func23, Try.ntmps23
  go_wp2_with fail
  refine (appendUvarintI _ (n + 1) (by omega) (by omega) base w v bs hown hb hl).mono ?_
  rintro e w' ⟨v', rfl, hown', hbel⟩
  go_wp2
  go_ret
  exact .mk hown' hbel
set_option maxRecDepth 100000 in
set_option maxHeartbeats 400000 in
theorem appendString (s : ByteArray) (hs : s.size ≤ 32767) : AppC Try.prog 21 (.string s) (be16 s.size ++ s.data.toList) := by
  intro base w v bs hown hb hl
  go_enter Try.func21, Try.ntmps21
  go_wp2_with fail
  refine (appendInt16 _ (by omega) (by omega) base w v bs hown hb (by simp only [List.length_append] at hl; omega)).mono ?_
  rintro e w' ⟨v', rfl, hown', hbel⟩
  go_wp2_with (at_builtin; refine halted ?_)
  refine wpl_append_from bt rfl _ _ rfl base _ hown' (Nat.le_trans hb hbel.size) s.data.toList (Src.ofStr Try.underlying9 s) (by simp only [List.length_append] at hl ⊢; omega) ?_
  intro v2 w2 hown2 hbel2
  rw [List.append_assoc] at hown2
  go_wp2
  go_ret
  exact .mk hown2 (hbel.trans hbel2)
set_option maxRecDepth 100000 in
set_option maxHeartbeats 400000 in
theorem appendCompactString (s : ByteArray) (hs : s.size ≤ 4294967294) : AppC Try.prog 20 (.string s) (uv (s.size + 1) ++ s.data.toList) := by
  intro base w v bs hown hb hl
  go_enter Try.func20, Try.ntmps20
  go_wp2_with fail
  refine (appendUvarintI _ (s.size + 1) (by omega) (by omega) base w v bs hown hb (by simp only [List.length_append] at hl; omega)).mono ?_
  rintro e w' ⟨v', rfl, hown', hbel⟩
  go_wp2_with (at_builtin; refine halted ?_)
  refine wpl_append_from bt rfl _ _ rfl base _ hown' (Nat.le_trans hb hbel.size) s.data.toList (Src.ofStr Try.underlying9 s) (by simp only [List.length_append] at hl ⊢; omega) ?_
  intro v2 w2 hown2 hbel2
  rw [List.append_assoc] at hown2
  go_wp2
  go_ret
  exact .mk hown2 (hbel.trans hbel2)

/-- A nullable text in memory below B, and what is written of it. -/
def NStr (B : Nat) (w : World) (v : Value) (s : Option ByteArray) : Prop :=
  match s with
  | none => v = .pointer none
  | some s => ∃ b o, v = .pointer (some ⟨b, o, none⟩) ∧ b < B ∧ w.cell? ⟨b, o, none⟩ = some (.string s)
theorem NStr.below {B : Nat} {w w' : World} {v : Value} {s : Option ByteArray} (h : NStr B w v s) (hk : Below B w w') : NStr B w' v s := by
  cases s with
  | none => exact h
  | some s =>
    obtain ⟨b, o, hv, hb, hc⟩ := h
    exact ⟨b, o, hv, hb, (hk.cell hb).trans hc⟩
set_option maxRecDepth 100000 in
set_option maxHeartbeats 400000 in
theorem appendNullableString_nil : AppC Try.prog 27 (.pointer none) (be16 (-1)) := by
  intro base w v bs hown hb hl
  go_enter Try.func27, Try.ntmps27
  go_wp2_with fail
  refine (appendInt16 (-1) (by omega) (by omega) base w v bs hown hb hl).mono ?_
  rintro e w' ⟨v', rfl, hown', hbel⟩
  go_wp2
  go_ret
  exact .mk hown' hbel
set_option maxRecDepth 100000 in
set_option maxHeartbeats 400000 in
theorem appendNullableString_some (s : ByteArray) (hs : s.size ≤ 32767) (a : Addr) (base : Nat) (w : World) (v : Value) (bs : List UInt8) (hc : w.cell? a = some (.string s)) (hown : Own base w v bs) (hb : base ≤ w.heap.size)
    (hl : bs.length + (be16 s.size ++ s.data.toList).length ≤ lim) : Calls Try.prog 27 #[v, .pointer (some a)] w (Appended base w (bs ++ (be16 s.size ++ s.data.toList))) := by
  go_enter Try.func27, Try.ntmps27
  go_wp2_with fail
  refine (appendString s hs base w v bs hown hb hl).mono ?_
  rintro e w' ⟨v', rfl, hown', hbel⟩
  go_wp2
  go_ret
  exact .mk hown' hbel
set_option maxRecDepth 100000 in
set_option maxHeartbeats 400000 in
theorem appendCompactNullableString_nil : AppC Try.prog 26 (.pointer none) (uv 0) := by
  intro base w v bs hown hb hl
  go_enter Try.func26, Try.ntmps26
  go_wp2_with fail
  refine (appendUvarint 0 (by omega) base w v bs hown hb hl).mono ?_
  rintro e w' ⟨v', rfl, hown', hbel⟩
  go_wp2
  go_ret
  exact .mk hown' hbel
set_option maxRecDepth 100000 in
set_option maxHeartbeats 400000 in
theorem appendCompactNullableString_some (s : ByteArray) (hs : s.size ≤ 4294967294) (a : Addr) (base : Nat) (w : World) (v : Value) (bs : List UInt8) (hc : w.cell? a = some (.string s)) (hown : Own base w v bs) (hb : base ≤ w.heap.size)
    (hl : bs.length + (uv (s.size + 1) ++ s.data.toList).length ≤ lim) : Calls Try.prog 26 #[v, .pointer (some a)] w (Appended base w (bs ++ (uv (s.size + 1) ++ s.data.toList))) := by
  go_enter Try.func26, Try.ntmps26
  go_wp2_with fail
  refine (appendCompactString s hs base w v bs hown hb hl).mono ?_
  rintro e w' ⟨v', rfl, hown', hbel⟩
  go_wp2
  go_ret
  exact .mk hown' hbel
end Go.Proofs.Ytkhpglongkhbjaa
