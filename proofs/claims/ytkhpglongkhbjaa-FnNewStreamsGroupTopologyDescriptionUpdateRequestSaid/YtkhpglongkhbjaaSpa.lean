/- The reference's small functions: each hands back just these bytes. -/
import Derived.Test.YtkhpglongkhbjaaKa
import Derived.Test.YtkhpglongkhbjaaTreeRep
namespace Go.Proofs.Ytkhpglongkhbjaa
open Go Go.RowKit

/-- Function f hands back bytes of the call's own; below base nothing has turned. -/
def Gives (P : Program) (f : Nat) (args : Array Value) (w : World) (base : Nat) (new : List UInt8) : Prop := Calls P f args w (Appended base w new)

set_option maxRecDepth 100000 in
set_option maxHeartbeats 1600000 in
theorem spFixed1 (n : Int) (base : Nat) (w : World) (hb : base ≤ w.heap.size) : Gives Try.prog 49 #[.int .i64 n, .int .i64 1] w base (fixed n 1) := by
  have hown0 := Own.nil base w
  have hbel0 := Below.refl base w
  go_enter Try.func49, Try.ntmps49
  go_wp2_with fail
  refine wp_loop_rounds 2 ?_
  rw [rounds_succ]
  go_wp2_with (at_builtin; refine halted ?_)
  refine wpl_append_bytes bt rfl _ _ rfl base [] hown0 (Nat.le_trans hb hbel0.size) _ [bb n] ?_ rfl (by simp [lim]) ?_
  · simp only [List.map_cons, List.map_nil, byteV_bb]
  clear hown0
  intro v1 w1 hown1 hb1
  have hbel1 := hbel0.trans hb1
  clear hbel0 hb1
  go_wp2_with fail
  rw [rounds_succ]
  go_wp2
  go_ret
  exact .mk hown1 hbel1
set_option maxRecDepth 100000 in
set_option maxHeartbeats 1600000 in
theorem spFixed2 (n : Int) (base : Nat) (w : World) (hb : base ≤ w.heap.size) : Gives Try.prog 49 #[.int .i64 n, .int .i64 2] w base (fixed n 2) := by
  have hown0 := Own.nil base w
  have hbel0 := Below.refl base w
  go_enter Try.func49, Try.ntmps49
  go_wp2_with fail
  refine wp_loop_rounds 3 ?_
  rw [rounds_succ]
  go_wp2_with (at_builtin; refine halted ?_)
  refine wpl_append_bytes bt rfl _ _ rfl base [] hown0 (Nat.le_trans hb hbel0.size) _ [bb (n / 256)] ?_ rfl (by simp [lim]) ?_
  · simp only [List.map_cons, List.map_nil, byteV_bb]
  clear hown0
  intro v1 w1 hown1 hb1
  have hbel1 := hbel0.trans hb1
  clear hbel0 hb1
  go_wp2_with fail
  rw [rounds_succ]
  go_wp2_with (at_builtin; refine halted ?_)
  refine wpl_append_bytes bt rfl _ _ rfl base [bb (n / 256)] hown1 (Nat.le_trans hb hbel1.size) _ [bb n] ?_ rfl (by simp [lim]) ?_
  · simp only [List.map_cons, List.map_nil, byteV_bb]
  clear hown1
  intro v2 w2 hown2 hb2
  have hbel2 := hbel1.trans hb2
  clear hbel1 hb2
  go_wp2_with fail
  rw [rounds_succ]
  go_wp2
  go_ret
  exact .mk hown2 hbel2
set_option maxRecDepth 100000 in
set_option maxHeartbeats 1600000 in
theorem spFixed4 (n : Int) (base : Nat) (w : World) (hb : base ≤ w.heap.size) : Gives Try.prog 49 #[.int .i64 n, .int .i64 4] w base (fixed n 4) := by
  have hown0 := Own.nil base w
  have hbel0 := Below.refl base w
  go_enter Try.func49, Try.ntmps49
  go_wp2_with fail
  refine wp_loop_rounds 5 ?_
  rw [rounds_succ]
  go_wp2_with (at_builtin; refine halted ?_)
  refine wpl_append_bytes bt rfl _ _ rfl base [] hown0 (Nat.le_trans hb hbel0.size) _ [bb (n / 16777216)] ?_ rfl (by simp [lim]) ?_
  · simp only [List.map_cons, List.map_nil, byteV_bb]
  clear hown0
  intro v1 w1 hown1 hb1
  have hbel1 := hbel0.trans hb1
  clear hbel0 hb1
  go_wp2_with fail
  rw [rounds_succ]
  go_wp2_with (at_builtin; refine halted ?_)
  refine wpl_append_bytes bt rfl _ _ rfl base [bb (n / 16777216)] hown1 (Nat.le_trans hb hbel1.size) _ [bb (n / 65536)] ?_ rfl (by simp [lim]) ?_
  · simp only [List.map_cons, List.map_nil, byteV_bb]
  clear hown1
  intro v2 w2 hown2 hb2
  have hbel2 := hbel1.trans hb2
  clear hbel1 hb2
  go_wp2_with fail
  rw [rounds_succ]
  go_wp2_with (at_builtin; refine halted ?_)
  refine wpl_append_bytes bt rfl _ _ rfl base [bb (n / 16777216), bb (n / 65536)] hown2 (Nat.le_trans hb hbel2.size) _ [bb (n / 256)] ?_ rfl (by simp [lim]) ?_
  · simp only [List.map_cons, List.map_nil, byteV_bb]
  clear hown2
  intro v3 w3 hown3 hb3
  have hbel3 := hbel2.trans hb3
  clear hbel2 hb3
  go_wp2_with fail
  rw [rounds_succ]
  go_wp2_with (at_builtin; refine halted ?_)
  refine wpl_append_bytes bt rfl _ _ rfl base [bb (n / 16777216), bb (n / 65536), bb (n / 256)] hown3 (Nat.le_trans hb hbel3.size) _ [bb n] ?_ rfl (by simp [lim]) ?_
  · simp only [List.map_cons, List.map_nil, byteV_bb]
  clear hown3
  intro v4 w4 hown4 hb4
  have hbel4 := hbel3.trans hb4
  clear hbel3 hb4
  go_wp2_with fail
  rw [rounds_succ]
  go_wp2
  go_ret
  exact .mk hown4 hbel4
set_option maxRecDepth 100000 in
set_option maxHeartbeats 1600000 in
theorem spFixed8 (n : Int) (base : Nat) (w : World) (hb : base ≤ w.heap.size) : Gives Try.prog 49 #[.int .i64 n, .int .i64 8] w base (fixed n 8) := by
  have hown0 := Own.nil base w
  have hbel0 := Below.refl base w
  go_enter Try.func49, Try.ntmps49
  go_wp2_with fail
  refine wp_loop_rounds 9 ?_
  rw [rounds_succ]
  go_wp2_with (at_builtin; refine halted ?_)
  refine wpl_append_bytes bt rfl _ _ rfl base [] hown0 (Nat.le_trans hb hbel0.size) _ [bb (n / 72057594037927936)] ?_ rfl (by simp [lim]) ?_
  · simp only [List.map_cons, List.map_nil, byteV_bb]
  clear hown0
  intro v1 w1 hown1 hb1
  have hbel1 := hbel0.trans hb1
  clear hbel0 hb1
  go_wp2_with fail
  rw [rounds_succ]
  go_wp2_with (at_builtin; refine halted ?_)
  refine wpl_append_bytes bt rfl _ _ rfl base [bb (n / 72057594037927936)] hown1 (Nat.le_trans hb hbel1.size) _ [bb (n / 281474976710656)] ?_ rfl (by simp [lim]) ?_
  · simp only [List.map_cons, List.map_nil, byteV_bb]
  clear hown1
  intro v2 w2 hown2 hb2
  have hbel2 := hbel1.trans hb2
  clear hbel1 hb2
  go_wp2_with fail
  rw [rounds_succ]
  go_wp2_with (at_builtin; refine halted ?_)
  refine wpl_append_bytes bt rfl _ _ rfl base [bb (n / 72057594037927936), bb (n / 281474976710656)] hown2 (Nat.le_trans hb hbel2.size) _ [bb (n / 1099511627776)] ?_ rfl (by simp [lim]) ?_
  · simp only [List.map_cons, List.map_nil, byteV_bb]
  clear hown2
  intro v3 w3 hown3 hb3
  have hbel3 := hbel2.trans hb3
  clear hbel2 hb3
  go_wp2_with fail
  rw [rounds_succ]
  go_wp2_with (at_builtin; refine halted ?_)
  refine wpl_append_bytes bt rfl _ _ rfl base [bb (n / 72057594037927936), bb (n / 281474976710656), bb (n / 1099511627776)] hown3 (Nat.le_trans hb hbel3.size) _ [bb (n / 4294967296)] ?_ rfl (by simp [lim]) ?_
  · simp only [List.map_cons, List.map_nil, byteV_bb]
  clear hown3
  intro v4 w4 hown4 hb4
  have hbel4 := hbel3.trans hb4
  clear hbel3 hb4
  go_wp2_with fail
  rw [rounds_succ]
  go_wp2_with (at_builtin; refine halted ?_)
  refine wpl_append_bytes bt rfl _ _ rfl base [bb (n / 72057594037927936), bb (n / 281474976710656), bb (n / 1099511627776), bb (n / 4294967296)] hown4 (Nat.le_trans hb hbel4.size) _ [bb (n / 16777216)] ?_ rfl (by simp [lim]) ?_
  · simp only [List.map_cons, List.map_nil, byteV_bb]
  clear hown4
  intro v5 w5 hown5 hb5
  have hbel5 := hbel4.trans hb5
  clear hbel4 hb5
  go_wp2_with fail
  rw [rounds_succ]
  go_wp2_with (at_builtin; refine halted ?_)
  refine wpl_append_bytes bt rfl _ _ rfl base [bb (n / 72057594037927936), bb (n / 281474976710656), bb (n / 1099511627776), bb (n / 4294967296), bb (n / 16777216)] hown5 (Nat.le_trans hb hbel5.size) _ [bb (n / 65536)] ?_ rfl (by simp [lim]) ?_
  · simp only [List.map_cons, List.map_nil, byteV_bb]
  clear hown5
  intro v6 w6 hown6 hb6
  have hbel6 := hbel5.trans hb6
  clear hbel5 hb6
  go_wp2_with fail
  rw [rounds_succ]
  go_wp2_with (at_builtin; refine halted ?_)
  refine wpl_append_bytes bt rfl _ _ rfl base [bb (n / 72057594037927936), bb (n / 281474976710656), bb (n / 1099511627776), bb (n / 4294967296), bb (n / 16777216), bb (n / 65536)] hown6 (Nat.le_trans hb hbel6.size) _ [bb (n / 256)] ?_ rfl (by simp [lim]) ?_
  · simp only [List.map_cons, List.map_nil, byteV_bb]
  clear hown6
  intro v7 w7 hown7 hb7
  have hbel7 := hbel6.trans hb7
  clear hbel6 hb7
  go_wp2_with fail
  rw [rounds_succ]
  go_wp2_with (at_builtin; refine halted ?_)
  refine wpl_append_bytes bt rfl _ _ rfl base [bb (n / 72057594037927936), bb (n / 281474976710656), bb (n / 1099511627776), bb (n / 4294967296), bb (n / 16777216), bb (n / 65536), bb (n / 256)] hown7 (Nat.le_trans hb hbel7.size) _ [bb n] ?_ rfl (by simp [lim]) ?_
  · simp only [List.map_cons, List.map_nil, byteV_bb]
  clear hown7
  intro v8 w8 hown8 hb8
  have hbel8 := hbel7.trans hb8
  clear hbel7 hb8
  go_wp2_with fail
  rw [rounds_succ]
  go_wp2
  go_ret
  exact .mk hown8 hbel8

theorem bv64_and127 (n : Nat) (h : n < 18446744073709551616) : (BitVec.ofNat 64 n &&& BitVec.ofNat 64 127).toNat = n % 128 := by
  have e := Nat.and_two_pow_sub_one_eq_mod n 7
  rw [BitVec.toNat_and, BitVec.toNat_ofNat, BitVec.toNat_ofNat, Nat.mod_eq_of_lt h]
  exact e
theorem bv8_or128 (n : Nat) (h : n < 128) : (BitVec.ofNat 8 n ||| BitVec.ofNat 8 128).toNat = n + 128 := by
  have e := Nat.two_pow_add_eq_or_of_lt (i := 7) (b := n) h 1
  rw [BitVec.toNat_or, BitVec.toNat_ofNat, BitVec.toNat_ofNat, Nat.mod_eq_of_lt (by omega), Nat.or_comm]
  simp at e ⊢
  omega
theorem and127_64 (n : Nat) (h : n < 18446744073709551616) : bits BinOp.and IntKind.u64 (n : Int) 127 = ((n % 128 : Nat) : Int) := by
  have e := bv64_and127 n h
  have e2 : bits BinOp.and IntKind.u64 (n : Int) 127 = IntKind.u64.wrap (((BitVec.ofNat 64 n &&& BitVec.ofNat 64 127).toNat : Nat) : Int) := by
    unfold bits
    rfl
  rw [e2, e, IntKind.wrap_u64]
  omega
theorem or128_8 (n : Nat) (h : n < 128) : bits BinOp.or IntKind.u8 (n : Int) 128 = ((n + 128 : Nat) : Int) := by
  have e := bv8_or128 n h
  have e2 : bits BinOp.or IntKind.u8 (n : Int) 128 = IntKind.u8.wrap (((BitVec.ofNat 8 n ||| BitVec.ofNat 8 128).toNat : Nat) : Int) := by
    unfold bits
    rfl
  rw [e2, e, IntKind.wrap_u8]
  omega
theorem seven64 (n : Nat) (h : n < 18446744073709551616) : bits BinOp.or IntKind.u8 (bits BinOp.and IntKind.u64 (n : Int) 127 % 256) 128 = ((n % 128 + 128 : Nat) : Int) := by
  rw [and127_64 n h, show (((n % 128 : Nat) : Int) % 256) = ((n % 128 : Nat) : Int) by omega, or128_8 (n % 128) (by omega)]
set_option maxRecDepth 100000 in
set_option maxHeartbeats 1600000 in
theorem spUvarint1 (n : Nat) (h0 : 0 ≤ n) (h1 : n ≤ 127) (base : Nat) (w : World) (hb : base ≤ w.heap.size) : Gives Try.prog 36 #[.int .u64 n] w base (uv n) := by
  rw [uv1 (by omega)]
  have hown0 := Own.nil base w
  have hbel0 := Below.refl base w
  go_enter Try.func36, Try.ntmps36
  go_wp2_with fail
  refine wp_loop_rounds 1 ?_
  rw [rounds_succ]
  go_wp2_with (at_builtin; refine halted ?_)
  refine wpl_append_bytes bt rfl _ _ rfl base [] hown0 (Nat.le_trans hb hbel0.size) _ [UInt8.ofNat (n)] ?_ rfl (by simp [lim]) ?_
  · simp only [List.map_cons, List.map_nil, byteV_nat (show n < 256 by omega)]
    try rw [show ((((n) : Nat) : Int) % 256) = (((n) : Nat) : Int) by omega]
  intro v1 w1 hown1 hb1
  have hbel1 := hbel0.trans hb1
  go_wp2
  go_ret
  exact .mk hown1 hbel1
set_option maxRecDepth 100000 in
set_option maxHeartbeats 1600000 in
theorem spUvarint2 (n : Nat) (h0 : 128 ≤ n) (h1 : n ≤ 16383) (base : Nat) (w : World) (hb : base ≤ w.heap.size) : Gives Try.prog 36 #[.int .u64 n] w base (uv n) := by
  rw [uv2 (by omega) (by omega)]
  have hown0 := Own.nil base w
  have hbel0 := Below.refl base w
  go_enter Try.func36, Try.ntmps36
  go_wp2_with fail
  refine wp_loop_rounds 2 ?_
  rw [rounds_succ]
  go_wp2_with (at_builtin; refine halted ?_)
  refine wpl_append_bytes bt rfl _ _ rfl base [] hown0 (Nat.le_trans hb hbel0.size) _ [UInt8.ofNat (n % 128 + 128)] ?_ rfl (by simp [lim]) ?_
  · simp only [List.map_cons, List.map_nil, byteV_nat (show n % 128 + 128 < 256 by omega)]
    rw [seven64 (n) (by omega)]
  clear hown0
  intro v1 w1 hown1 hb1
  have hbel1 := hbel0.trans hb1
  clear hbel0 hb1
  go_wp2_with fail
  rw [rounds_succ]
  go_wp2_with (at_builtin; refine halted ?_)
  refine wpl_append_bytes bt rfl _ _ rfl base [UInt8.ofNat (n % 128 + 128)] hown1 (Nat.le_trans hb hbel1.size) _ [UInt8.ofNat (n / 128)] ?_ rfl (by simp [lim]) ?_
  · simp only [List.map_cons, List.map_nil, byteV_nat (show n / 128 < 256 by omega)]
    rw [show ((n : Int) / 128) = ((n / 128 : Nat) : Int) by omega]
    try rw [show ((((n / 128) : Nat) : Int) % 256) = (((n / 128) : Nat) : Int) by omega]
  intro v2 w2 hown2 hb2
  have hbel2 := hbel1.trans hb2
  go_wp2
  go_ret
  exact .mk hown2 hbel2
set_option maxRecDepth 100000 in
set_option maxHeartbeats 1600000 in
theorem spUvarint3 (n : Nat) (h0 : 16384 ≤ n) (h1 : n ≤ 2097151) (base : Nat) (w : World) (hb : base ≤ w.heap.size) : Gives Try.prog 36 #[.int .u64 n] w base (uv n) := by
  rw [uv3 (by omega) (by omega)]
  have hown0 := Own.nil base w
  have hbel0 := Below.refl base w
  go_enter Try.func36, Try.ntmps36
  go_wp2_with fail
  refine wp_loop_rounds 3 ?_
  rw [rounds_succ]
  go_wp2_with (at_builtin; refine halted ?_)
  refine wpl_append_bytes bt rfl _ _ rfl base [] hown0 (Nat.le_trans hb hbel0.size) _ [UInt8.ofNat (n % 128 + 128)] ?_ rfl (by simp [lim]) ?_
  · simp only [List.map_cons, List.map_nil, byteV_nat (show n % 128 + 128 < 256 by omega)]
    rw [seven64 (n) (by omega)]
  clear hown0
  intro v1 w1 hown1 hb1
  have hbel1 := hbel0.trans hb1
  clear hbel0 hb1
  go_wp2_with fail
  rw [rounds_succ]
  go_wp2_with (at_builtin; refine halted ?_)
  refine wpl_append_bytes bt rfl _ _ rfl base [UInt8.ofNat (n % 128 + 128)] hown1 (Nat.le_trans hb hbel1.size) _ [UInt8.ofNat (n / 128 % 128 + 128)] ?_ rfl (by simp [lim]) ?_
  · simp only [List.map_cons, List.map_nil, byteV_nat (show n / 128 % 128 + 128 < 256 by omega)]
    rw [show ((n : Int) / 128) = ((n / 128 : Nat) : Int) by omega]
    rw [seven64 (n / 128) (by omega)]
  clear hown1
  intro v2 w2 hown2 hb2
  have hbel2 := hbel1.trans hb2
  clear hbel1 hb2
  go_wp2_with fail
  rw [rounds_succ]
  go_wp2_with (at_builtin; refine halted ?_)
  refine wpl_append_bytes bt rfl _ _ rfl base [UInt8.ofNat (n % 128 + 128), UInt8.ofNat (n / 128 % 128 + 128)] hown2 (Nat.le_trans hb hbel2.size) _ [UInt8.ofNat (n / 16384)] ?_ rfl (by simp [lim]) ?_
  · simp only [List.map_cons, List.map_nil, byteV_nat (show n / 16384 < 256 by omega)]
    rw [show ((n : Int) / 128 / 128) = ((n / 16384 : Nat) : Int) by omega]
    try rw [show ((((n / 16384) : Nat) : Int) % 256) = (((n / 16384) : Nat) : Int) by omega]
  intro v3 w3 hown3 hb3
  have hbel3 := hbel2.trans hb3
  go_wp2
  go_ret
  exact .mk hown3 hbel3
set_option maxRecDepth 100000 in
set_option maxHeartbeats 1600000 in
theorem spUvarint4 (n : Nat) (h0 : 2097152 ≤ n) (h1 : n ≤ 268435455) (base : Nat) (w : World) (hb : base ≤ w.heap.size) : Gives Try.prog 36 #[.int .u64 n] w base (uv n) := by
  rw [uv4 (by omega) (by omega)]
  have hown0 := Own.nil base w
  have hbel0 := Below.refl base w
  go_enter Try.func36, Try.ntmps36
  go_wp2_with fail
  refine wp_loop_rounds 4 ?_
  rw [rounds_succ]
  go_wp2_with (at_builtin; refine halted ?_)
  refine wpl_append_bytes bt rfl _ _ rfl base [] hown0 (Nat.le_trans hb hbel0.size) _ [UInt8.ofNat (n % 128 + 128)] ?_ rfl (by simp [lim]) ?_
  · simp only [List.map_cons, List.map_nil, byteV_nat (show n % 128 + 128 < 256 by omega)]
    rw [seven64 (n) (by omega)]
  clear hown0
  intro v1 w1 hown1 hb1
  have hbel1 := hbel0.trans hb1
  clear hbel0 hb1
  go_wp2_with fail
  rw [rounds_succ]
  go_wp2_with (at_builtin; refine halted ?_)
  refine wpl_append_bytes bt rfl _ _ rfl base [UInt8.ofNat (n % 128 + 128)] hown1 (Nat.le_trans hb hbel1.size) _ [UInt8.ofNat (n / 128 % 128 + 128)] ?_ rfl (by simp [lim]) ?_
  · simp only [List.map_cons, List.map_nil, byteV_nat (show n / 128 % 128 + 128 < 256 by omega)]
    rw [show ((n : Int) / 128) = ((n / 128 : Nat) : Int) by omega]
    rw [seven64 (n / 128) (by omega)]
  clear hown1
  intro v2 w2 hown2 hb2
  have hbel2 := hbel1.trans hb2
  clear hbel1 hb2
  go_wp2_with fail
  rw [rounds_succ]
  go_wp2_with (at_builtin; refine halted ?_)
  refine wpl_append_bytes bt rfl _ _ rfl base [UInt8.ofNat (n % 128 + 128), UInt8.ofNat (n / 128 % 128 + 128)] hown2 (Nat.le_trans hb hbel2.size) _ [UInt8.ofNat (n / 16384 % 128 + 128)] ?_ rfl (by simp [lim]) ?_
  · simp only [List.map_cons, List.map_nil, byteV_nat (show n / 16384 % 128 + 128 < 256 by omega)]
    rw [show ((n : Int) / 128 / 128) = ((n / 16384 : Nat) : Int) by omega]
    rw [seven64 (n / 16384) (by omega)]
  clear hown2
  intro v3 w3 hown3 hb3
  have hbel3 := hbel2.trans hb3
  clear hbel2 hb3
  go_wp2_with fail
  rw [rounds_succ]
  go_wp2_with (at_builtin; refine halted ?_)
  refine wpl_append_bytes bt rfl _ _ rfl base [UInt8.ofNat (n % 128 + 128), UInt8.ofNat (n / 128 % 128 + 128), UInt8.ofNat (n / 16384 % 128 + 128)] hown3 (Nat.le_trans hb hbel3.size) _ [UInt8.ofNat (n / 2097152)] ?_ rfl (by simp [lim]) ?_
  · simp only [List.map_cons, List.map_nil, byteV_nat (show n / 2097152 < 256 by omega)]
    rw [show ((n : Int) / 128 / 128 / 128) = ((n / 2097152 : Nat) : Int) by omega]
    try rw [show ((((n / 2097152) : Nat) : Int) % 256) = (((n / 2097152) : Nat) : Int) by omega]
  intro v4 w4 hown4 hb4
  have hbel4 := hbel3.trans hb4
  go_wp2
  go_ret
  exact .mk hown4 hbel4
set_option maxRecDepth 100000 in
set_option maxHeartbeats 1600000 in
theorem spUvarint5 (n : Nat) (h0 : 268435456 ≤ n) (h1 : n ≤ 4294967295) (base : Nat) (w : World) (hb : base ≤ w.heap.size) : Gives Try.prog 36 #[.int .u64 n] w base (uv n) := by
  rw [uv5 (by omega) (by omega)]
  have hown0 := Own.nil base w
  have hbel0 := Below.refl base w
  go_enter Try.func36, Try.ntmps36
  go_wp2_with fail
  refine wp_loop_rounds 5 ?_
  rw [rounds_succ]
  go_wp2_with (at_builtin; refine halted ?_)
  refine wpl_append_bytes bt rfl _ _ rfl base [] hown0 (Nat.le_trans hb hbel0.size) _ [UInt8.ofNat (n % 128 + 128)] ?_ rfl (by simp [lim]) ?_
  · simp only [List.map_cons, List.map_nil, byteV_nat (show n % 128 + 128 < 256 by omega)]
    rw [seven64 (n) (by omega)]
  clear hown0
  intro v1 w1 hown1 hb1
  have hbel1 := hbel0.trans hb1
  clear hbel0 hb1
  go_wp2_with fail
  rw [rounds_succ]
  go_wp2_with (at_builtin; refine halted ?_)
  refine wpl_append_bytes bt rfl _ _ rfl base [UInt8.ofNat (n % 128 + 128)] hown1 (Nat.le_trans hb hbel1.size) _ [UInt8.ofNat (n / 128 % 128 + 128)] ?_ rfl (by simp [lim]) ?_
  · simp only [List.map_cons, List.map_nil, byteV_nat (show n / 128 % 128 + 128 < 256 by omega)]
    rw [show ((n : Int) / 128) = ((n / 128 : Nat) : Int) by omega]
    rw [seven64 (n / 128) (by omega)]
  clear hown1
  intro v2 w2 hown2 hb2
  have hbel2 := hbel1.trans hb2
  clear hbel1 hb2
  go_wp2_with fail
  rw [rounds_succ]
  go_wp2_with (at_builtin; refine halted ?_)
  refine wpl_append_bytes bt rfl _ _ rfl base [UInt8.ofNat (n % 128 + 128), UInt8.ofNat (n / 128 % 128 + 128)] hown2 (Nat.le_trans hb hbel2.size) _ [UInt8.ofNat (n / 16384 % 128 + 128)] ?_ rfl (by simp [lim]) ?_
  · simp only [List.map_cons, List.map_nil, byteV_nat (show n / 16384 % 128 + 128 < 256 by omega)]
    rw [show ((n : Int) / 128 / 128) = ((n / 16384 : Nat) : Int) by omega]
    rw [seven64 (n / 16384) (by omega)]
  clear hown2
  intro v3 w3 hown3 hb3
  have hbel3 := hbel2.trans hb3
  clear hbel2 hb3
  go_wp2_with fail
  rw [rounds_succ]
  go_wp2_with (at_builtin; refine halted ?_)
  refine wpl_append_bytes bt rfl _ _ rfl base [UInt8.ofNat (n % 128 + 128), UInt8.ofNat (n / 128 % 128 + 128), UInt8.ofNat (n / 16384 % 128 + 128)] hown3 (Nat.le_trans hb hbel3.size) _ [UInt8.ofNat (n / 2097152 % 128 + 128)] ?_ rfl (by simp [lim]) ?_
  · simp only [List.map_cons, List.map_nil, byteV_nat (show n / 2097152 % 128 + 128 < 256 by omega)]
    rw [show ((n : Int) / 128 / 128 / 128) = ((n / 2097152 : Nat) : Int) by omega]
    rw [seven64 (n / 2097152) (by omega)]
  clear hown3
  intro v4 w4 hown4 hb4
  have hbel4 := hbel3.trans hb4
  clear hbel3 hb4
  go_wp2_with fail
  rw [rounds_succ]
  go_wp2_with (at_builtin; refine halted ?_)
  refine wpl_append_bytes bt rfl _ _ rfl base [UInt8.ofNat (n % 128 + 128), UInt8.ofNat (n / 128 % 128 + 128), UInt8.ofNat (n / 16384 % 128 + 128), UInt8.ofNat (n / 2097152 % 128 + 128)] hown4 (Nat.le_trans hb hbel4.size) _ [UInt8.ofNat (n / 268435456)] ?_ rfl (by simp [lim]) ?_
  · simp only [List.map_cons, List.map_nil, byteV_nat (show n / 268435456 < 256 by omega)]
    rw [show ((n : Int) / 128 / 128 / 128 / 128) = ((n / 268435456 : Nat) : Int) by omega]
    try rw [show ((((n / 268435456) : Nat) : Int) % 256) = (((n / 268435456) : Nat) : Int) by omega]
  intro v5 w5 hown5 hb5
  have hbel5 := hbel4.trans hb5
  go_wp2
  go_ret
  exact .mk hown5 hbel5
theorem spUvarint (n : Nat) (h : n ≤ 4294967295) (base : Nat) (w : World) (hb : base ≤ w.heap.size) : Gives Try.prog 36 #[.int .u64 n] w base (uv n) := by
  by_cases h1 : n ≤ 127
  · exact spUvarint1 n (by omega) h1 base w hb
  by_cases h2 : n ≤ 16383
  · exact spUvarint2 n (by omega) h2 base w hb
  by_cases h3 : n ≤ 2097151
  · exact spUvarint3 n (by omega) h3 base w hb
  by_cases h4 : n ≤ 268435455
  · exact spUvarint4 n (by omega) h4 base w hb
  · exact spUvarint5 n (by omega) h base w hb
end Go.Proofs.Ytkhpglongkhbjaa
