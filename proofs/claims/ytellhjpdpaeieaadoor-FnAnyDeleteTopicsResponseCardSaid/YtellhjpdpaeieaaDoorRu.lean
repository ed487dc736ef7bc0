/- The reader's numbers in groups of seven bits. -/
import Derived.Test.YtellhjpdpaeieaaDoorRk
import Derived.WalkMore
import Derived.ScopeJumps
namespace Go.Proofs.YtellhjpdpaeieaaDoor
open Go Go.RowKit
set_option linter.unusedVariables false

theorem u8and127 (n : Nat) (h : n < 256) : bits BinOp.and IntKind.u8 (n : Int) 127 = ((n % 128 : Nat) : Int) := by
  have e := Nat.and_two_pow_sub_one_eq_mod n 7
  have e2 : bits BinOp.and IntKind.u8 (n : Int) 127 = IntKind.u8.wrap (((BitVec.ofNat 8 n &&& BitVec.ofNat 8 127).toNat : Nat) : Int) := by
    unfold bits
    rfl
  have e3 : (BitVec.ofNat 8 n &&& BitVec.ofNat 8 127).toNat = n % 128 := by
    rw [BitVec.toNat_and, BitVec.toNat_ofNat, BitVec.toNat_ofNat, Nat.mod_eq_of_lt h]
    exact e
  rw [e2, e3, IntKind.wrap_u8]
  omega
theorem u8and128 : ∀ (n : Nat) (h : n < 256), bits BinOp.and IntKind.u8 (n : Int) 128 = if n < 128 then 0 else 128 := by
  have h : ∀ n : Fin 256, bits BinOp.and IntKind.u8 ((n.val : Nat) : Int) 128 = if n.val < 128 then 0 else 128 := by decide +kernel
  exact fun n hn => h ⟨n, hn⟩
theorem u32or (a y k m : Nat) (hk : (k = 7 ∧ m = 128) ∨ (k = 14 ∧ m = 16384) ∨ (k = 21 ∧ m = 2097152) ∨ (k = 28 ∧ m = 268435456)) (ha : a < m) (hy : y * m < 4294967296) : bits BinOp.or IntKind.u32 (a : Int) ((y * m : Nat) : Int) = ((a + m * y : Nat) : Int) := by
  have hm : m = 2 ^ k := by rcases hk with ⟨rfl, rfl⟩ | ⟨rfl, rfl⟩ | ⟨rfl, rfl⟩ | ⟨rfl, rfl⟩ <;> rfl
  have e := Nat.two_pow_add_eq_or_of_lt (i := k) (b := a) (hm ▸ ha) y
  rw [← hm] at e
  have h2 : a < 4294967296 := by rcases hk with ⟨rfl, rfl⟩ | ⟨rfl, rfl⟩ | ⟨rfl, rfl⟩ | ⟨rfl, rfl⟩ <;> omega
  have h3 : a + m * y < 4294967296 := by rcases hk with ⟨rfl, rfl⟩ | ⟨rfl, rfl⟩ | ⟨rfl, rfl⟩ | ⟨rfl, rfl⟩ <;> omega
  have e2 : bits BinOp.or IntKind.u32 (a : Int) ((y * m : Nat) : Int) = IntKind.u32.wrap (((BitVec.ofNat 32 a ||| BitVec.ofNat 32 (y * m)).toNat : Nat) : Int) := by
    unfold bits
    rfl
  have e3 : (BitVec.ofNat 32 a ||| BitVec.ofNat 32 (y * m)).toNat = a + m * y := by
    rw [BitVec.toNat_or, BitVec.toNat_ofNat, BitVec.toNat_ofNat, Nat.mod_eq_of_lt h2, Nat.mod_eq_of_lt hy, Nat.or_comm, Nat.mul_comm y m, ← e]
    omega
  rw [e2, e3, IntKind.wrap_u32]
  omega
/-- The same as the walk spells it. -/
theorem u32or' (a y k m : Nat) (mi : Int) (hmi : mi = (m : Nat)) (hk : (k = 7 ∧ m = 128) ∨ (k = 14 ∧ m = 16384) ∨ (k = 21 ∧ m = 2097152) ∨ (k = 28 ∧ m = 268435456)) (ha : a < m) (hy : y * m < 4294967296) : bits BinOp.or IntKind.u32 (a : Int) ((y : Int) % 4294967296 * mi % 4294967296) = ((a + m * y : Nat) : Int) := by
  subst hmi
  have e : (y : Int) % 4294967296 * (m : Int) % 4294967296 = ((y * m : Nat) : Int) := by
    have hy0 : y < 4294967296 := by rcases hk with ⟨rfl, rfl⟩ | ⟨rfl, rfl⟩ | ⟨rfl, rfl⟩ | ⟨rfl, rfl⟩ <;> omega
    have e1 : (y : Int) % 4294967296 = y := by omega
    have e2 : ((y * m : Nat) : Int) % 4294967296 = ((y * m : Nat) : Int) := by omega
    rw [e1, ← Int.natCast_mul, e2]
  rw [e]
  exact u32or a y k m hk ha hy
theorem u32or4 (a y : Nat) (ha : a < 268435456) (hy : y < 16) : bits BinOp.or IntKind.u32 (a : Int) ((y : Int) * 268435456) = ((a + 268435456 * y : Nat) : Int) := by
  have h := u32or a y 28 268435456 (by omega) ha (by omega)
  rw [Int.natCast_mul] at h
  exact h
/-- What kbin.Uvarint hands back. -/
inductive UvOut (bs : List UInt8) (w : World) (e : Ending) (w' : World) : Prop
  | good {x : Nat} {k : Nat} (hk : 0 < k ∧ k ≤ bs.length) (hr : rdUv bs = some (x, bs.drop k)) (he : e = .returned (.tuple #[.int .u32 x, .int .i64 k])) (hw : w = w') : UvOut bs w e w'
  | bad {n : Int} (hn : n ≤ 0) (hr : rdUv bs = none) (he : e = .returned (.tuple #[.int .u32 0, .int .i64 n])) (hw : w = w') : UvOut bs w e w'
theorem uv_rest {P : Program} {fn : Func} {R : Ending → World → Prop} {a : Act} {w : World} {v : Int} {r y1 y2 y3 : Nat} {p1 p2 p3 : String} {e1 e2 e3 : Array Edge} {Q : Exit → Act → World → Prop} (hres : fn.results = #[.tmp 2, .tmp 3]) (h5 : aget a 5 = .int .i64 v) (hs : a.tmps.size = 87) (hd : a.defers = [])
    (hR : R (.returned (.tuple #[.int .u32 0, .int .i64 v])) w) (hQ : ∀ a w, bodyPost P fn R .ret a w → Q .ret a w) :
    (Code.seq .skip ((Code.region r #[⟨some 86, .move (.tmp 5), y1, p1, e1, none⟩, ⟨some 2, .assign (.const (.int .u32 0)), y2, p2, e2, none⟩, ⟨some 3, .assign (.tmp 86), y3, p3, e3, none⟩] false).seq .ret)).wp P Q a w := by
  refine wp_seq (wp_skip ?_)
  refine wp_seq (wp_reg ?_)
  refine wl_move h5 ?_
  refine wl_assign_c ?_
  refine wl_assign (v := .int .i64 v) (by rw [aget_put_other _ _ _ _ (by omega)]; exact aget_put_same _ _ _ (by rw [hs]; omega)) ?_
  refine wpList_nil (wp_ret (hQ _ _ ?_))
  refine bodyPost_ret (results_tmp2 hres _ _ _) hd ?_
  have g2 : ∀ A : Act, A.tmps.getD 2 undef = aget A 2 := fun _ => rfl
  have g3 : ∀ A : Act, A.tmps.getD 3 undef = aget A 3 := fun _ => rfl
  rw [g2, g3, aget_put_same _ _ _ (by simp only [size_put, hs]; omega), aget_put_other _ _ _ _ (by omega), aget_put_same _ _ _ (by simp only [size_put, hs]; omega)]
  exact hR
theorem noGoto_ret {Q : Exit → Act → World → Prop} {a : Act} {w : World} (h : Q .ret a w) : Exit.noGoto Q .ret a w := h
set_option maxHeartbeats 2000000 in
theorem uvS1 (bs : List UInt8) (w : World) (b o n cap : Nat) (z0 y0 : Nat) (hn : (1 : Int) ≤ n) (hlen : n = bs.length) (c0 : w.cell? ⟨b, o, none⟩ = some (.int .u8 (z0 : Nat))) (h0 : bits BinOp.and IntKind.u8 (z0 : Nat) 127 = (y0 : Nat)) (k0 : bits BinOp.and IntKind.u8 (z0 : Nat) 128 = 0) (b0 : y0 < 128) (hr : rdUv bs = some (y0, bs.drop 1)) :
    Calls Tryd.prog 125 #[.slice (some ⟨b, o, none⟩) n cap] w (UvOut bs w) := by
  have fin : Ending.returned (.tuple #[.int .u32 (((y0 : Nat) : Int) % 4294967296), .int .i64 1]) = .returned (.tuple #[.int .u32 ((y0 : Nat) : Int), .int .i64 ((1 : Nat) : Int)]) := by
    have e0 : ((y0 : Nat) : Int) % 4294967296 = ((y0 : Nat) : Int) := by omega
    rw [e0]
    rfl
  have Z := Lib.hid (And.intro hlen (And.intro hr fin))
  clear hlen hr fin b0
  go_enter Tryd.func125, Tryd.ntmps125
  go_wp2
  apply wp_scope_straight
  go_wp2_with fail
  refine noGoto_ret ?_
  go_ret2
  exact .good (k := 1) ⟨by omega, by rw [← Z.out.1]; omega⟩ Z.out.2.1 Z.out.2.2 rfl
set_option maxHeartbeats 2000000 in
theorem uvS2 (bs : List UInt8) (w : World) (b o n cap : Nat) (z0 z1 y0 y1 : Nat) (hn : (2 : Int) ≤ n) (hlen : n = bs.length) (c0 : w.cell? ⟨b, o, none⟩ = some (.int .u8 (z0 : Nat))) (c1 : w.cell? ⟨b, o + 1, none⟩ = some (.int .u8 (z1 : Nat))) (h0 : bits BinOp.and IntKind.u8 (z0 : Nat) 127 = (y0 : Nat)) (k0 : bits BinOp.and IntKind.u8 (z0 : Nat) 128 = 128) (h1 : bits BinOp.and IntKind.u8 (z1 : Nat) 127 = (y1 : Nat)) (k1 : bits BinOp.and IntKind.u8 (z1 : Nat) 128 = 0) (b0 : y0 < 128) (b1 : y1 < 128) (hr : rdUv bs = some (y0 + 128 * y1, bs.drop 2)) :
    Calls Tryd.prog 125 #[.slice (some ⟨b, o, none⟩) n cap] w (UvOut bs w) := by
  have fin : Ending.returned (.tuple #[.int .u32 (bits BinOp.or IntKind.u32 (((y0 : Nat) : Int) % 4294967296) ((y1 : Nat) % 4294967296 * 128 % 4294967296)), .int .i64 2]) = .returned (.tuple #[.int .u32 ((y0 + 128 * y1 : Nat) : Int), .int .i64 ((2 : Nat) : Int)]) := by
    have e0 : ((y0 : Nat) : Int) % 4294967296 = ((y0 : Nat) : Int) := by omega
    have e1 := u32or' (y0) y1 7 128 128 rfl (by omega) (by omega) (by omega)
    rw [e0, e1]
    rfl
  have Z := Lib.hid (And.intro hlen (And.intro hr fin))
  clear hlen hr fin b0 b1
  go_enter Tryd.func125, Tryd.ntmps125
  go_wp2
  apply wp_scope_straight
  go_wp2_with fail
  refine noGoto_ret ?_
  go_ret2
  exact .good (k := 2) ⟨by omega, by rw [← Z.out.1]; omega⟩ Z.out.2.1 Z.out.2.2 rfl
set_option maxHeartbeats 2000000 in
theorem uvS3 (bs : List UInt8) (w : World) (b o n cap : Nat) (z0 z1 z2 y0 y1 y2 : Nat) (hn : (3 : Int) ≤ n) (hlen : n = bs.length) (c0 : w.cell? ⟨b, o, none⟩ = some (.int .u8 (z0 : Nat))) (c1 : w.cell? ⟨b, o + 1, none⟩ = some (.int .u8 (z1 : Nat))) (c2 : w.cell? ⟨b, o + 2, none⟩ = some (.int .u8 (z2 : Nat))) (h0 : bits BinOp.and IntKind.u8 (z0 : Nat) 127 = (y0 : Nat)) (k0 : bits BinOp.and IntKind.u8 (z0 : Nat) 128 = 128) (h1 : bits BinOp.and IntKind.u8 (z1 : Nat) 127 = (y1 : Nat)) (k1 : bits BinOp.and IntKind.u8 (z1 : Nat) 128 = 128) (h2 : bits BinOp.and IntKind.u8 (z2 : Nat) 127 = (y2 : Nat)) (k2 : bits BinOp.and IntKind.u8 (z2 : Nat) 128 = 0) (b0 : y0 < 128) (b1 : y1 < 128) (b2 : y2 < 128) (hr : rdUv bs = some (y0 + 128 * y1 + 16384 * y2, bs.drop 3)) :
    Calls Tryd.prog 125 #[.slice (some ⟨b, o, none⟩) n cap] w (UvOut bs w) := by
  have fin : Ending.returned (.tuple #[.int .u32 (bits BinOp.or IntKind.u32 (bits BinOp.or IntKind.u32 (((y0 : Nat) : Int) % 4294967296) ((y1 : Nat) % 4294967296 * 128 % 4294967296)) ((y2 : Nat) % 4294967296 * 16384 % 4294967296)), .int .i64 3]) = .returned (.tuple #[.int .u32 ((y0 + 128 * y1 + 16384 * y2 : Nat) : Int), .int .i64 ((3 : Nat) : Int)]) := by
    have e0 : ((y0 : Nat) : Int) % 4294967296 = ((y0 : Nat) : Int) := by omega
    have e1 := u32or' (y0) y1 7 128 128 rfl (by omega) (by omega) (by omega)
    have e2 := u32or' (y0 + 128 * y1) y2 14 16384 16384 rfl (by omega) (by omega) (by omega)
    rw [e0, e1, e2]
    rfl
  have Z := Lib.hid (And.intro hlen (And.intro hr fin))
  clear hlen hr fin b0 b1 b2
  go_enter Tryd.func125, Tryd.ntmps125
  go_wp2
  apply wp_scope_straight
  go_wp2_with fail
  refine noGoto_ret ?_
  go_ret2
  exact .good (k := 3) ⟨by omega, by rw [← Z.out.1]; omega⟩ Z.out.2.1 Z.out.2.2 rfl
set_option maxHeartbeats 2000000 in
theorem uvS4 (bs : List UInt8) (w : World) (b o n cap : Nat) (z0 z1 z2 z3 y0 y1 y2 y3 : Nat) (hn : (4 : Int) ≤ n) (hlen : n = bs.length) (c0 : w.cell? ⟨b, o, none⟩ = some (.int .u8 (z0 : Nat))) (c1 : w.cell? ⟨b, o + 1, none⟩ = some (.int .u8 (z1 : Nat))) (c2 : w.cell? ⟨b, o + 2, none⟩ = some (.int .u8 (z2 : Nat))) (c3 : w.cell? ⟨b, o + 3, none⟩ = some (.int .u8 (z3 : Nat))) (h0 : bits BinOp.and IntKind.u8 (z0 : Nat) 127 = (y0 : Nat)) (k0 : bits BinOp.and IntKind.u8 (z0 : Nat) 128 = 128) (h1 : bits BinOp.and IntKind.u8 (z1 : Nat) 127 = (y1 : Nat)) (k1 : bits BinOp.and IntKind.u8 (z1 : Nat) 128 = 128) (h2 : bits BinOp.and IntKind.u8 (z2 : Nat) 127 = (y2 : Nat)) (k2 : bits BinOp.and IntKind.u8 (z2 : Nat) 128 = 128) (h3 : bits BinOp.and IntKind.u8 (z3 : Nat) 127 = (y3 : Nat)) (k3 : bits BinOp.and IntKind.u8 (z3 : Nat) 128 = 0) (b0 : y0 < 128) (b1 : y1 < 128) (b2 : y2 < 128) (b3 : y3 < 128) (hr : rdUv bs = some (y0 + 128 * y1 + 16384 * y2 + 2097152 * y3, bs.drop 4)) :
    Calls Tryd.prog 125 #[.slice (some ⟨b, o, none⟩) n cap] w (UvOut bs w) := by
  have fin : Ending.returned (.tuple #[.int .u32 (bits BinOp.or IntKind.u32 (bits BinOp.or IntKind.u32 (bits BinOp.or IntKind.u32 (((y0 : Nat) : Int) % 4294967296) ((y1 : Nat) % 4294967296 * 128 % 4294967296)) ((y2 : Nat) % 4294967296 * 16384 % 4294967296)) ((y3 : Nat) % 4294967296 * 2097152 % 4294967296)), .int .i64 4]) = .returned (.tuple #[.int .u32 ((y0 + 128 * y1 + 16384 * y2 + 2097152 * y3 : Nat) : Int), .int .i64 ((4 : Nat) : Int)]) := by
    have e0 : ((y0 : Nat) : Int) % 4294967296 = ((y0 : Nat) : Int) := by omega
    have e1 := u32or' (y0) y1 7 128 128 rfl (by omega) (by omega) (by omega)
    have e2 := u32or' (y0 + 128 * y1) y2 14 16384 16384 rfl (by omega) (by omega) (by omega)
    have e3 := u32or' (y0 + 128 * y1 + 16384 * y2) y3 21 2097152 2097152 rfl (by omega) (by omega) (by omega)
    rw [e0, e1, e2, e3]
    rfl
  have Z := Lib.hid (And.intro hlen (And.intro hr fin))
  clear hlen hr fin b0 b1 b2 b3
  go_enter Tryd.func125, Tryd.ntmps125
  go_wp2
  apply wp_scope_straight
  go_wp2_with fail
  refine noGoto_ret ?_
  go_ret2
  exact .good (k := 4) ⟨by omega, by rw [← Z.out.1]; omega⟩ Z.out.2.1 Z.out.2.2 rfl
set_option maxHeartbeats 2000000 in
theorem uvS5 (bs : List UInt8) (w : World) (b o n cap : Nat) (z0 z1 z2 z3 z4 y0 y1 y2 y3 : Nat) (hn : (5 : Int) ≤ n) (hlen : n = bs.length) (c0 : w.cell? ⟨b, o, none⟩ = some (.int .u8 (z0 : Nat))) (c1 : w.cell? ⟨b, o + 1, none⟩ = some (.int .u8 (z1 : Nat))) (c2 : w.cell? ⟨b, o + 2, none⟩ = some (.int .u8 (z2 : Nat))) (c3 : w.cell? ⟨b, o + 3, none⟩ = some (.int .u8 (z3 : Nat))) (c4 : w.cell? ⟨b, o + 4, none⟩ = some (.int .u8 (z4 : Nat))) (h0 : bits BinOp.and IntKind.u8 (z0 : Nat) 127 = (y0 : Nat)) (k0 : bits BinOp.and IntKind.u8 (z0 : Nat) 128 = 128) (h1 : bits BinOp.and IntKind.u8 (z1 : Nat) 127 = (y1 : Nat)) (k1 : bits BinOp.and IntKind.u8 (z1 : Nat) 128 = 128) (h2 : bits BinOp.and IntKind.u8 (z2 : Nat) 127 = (y2 : Nat)) (k2 : bits BinOp.and IntKind.u8 (z2 : Nat) 128 = 128) (h3 : bits BinOp.and IntKind.u8 (z3 : Nat) 127 = (y3 : Nat)) (k3 : bits BinOp.and IntKind.u8 (z3 : Nat) 128 = 128) (h4 : (z4 : Int) ≤ 15) (b0 : y0 < 128) (b1 : y1 < 128) (b2 : y2 < 128) (b3 : y3 < 128) (b4 : z4 < 16) (hr : rdUv bs = some (y0 + 128 * y1 + 16384 * y2 + 2097152 * y3 + 268435456 * z4, bs.drop 5)) :
    Calls Tryd.prog 125 #[.slice (some ⟨b, o, none⟩) n cap] w (UvOut bs w) := by
  have fin : Ending.returned (.tuple #[.int .u32 (bits BinOp.or IntKind.u32 (bits BinOp.or IntKind.u32 (bits BinOp.or IntKind.u32 (bits BinOp.or IntKind.u32 (((y0 : Nat) : Int) % 4294967296) ((y1 : Nat) % 4294967296 * 128 % 4294967296)) ((y2 : Nat) % 4294967296 * 16384 % 4294967296)) ((y3 : Nat) % 4294967296 * 2097152 % 4294967296)) (((z4 : Nat) : Int) * 268435456)), .int .i64 5]) = .returned (.tuple #[.int .u32 ((y0 + 128 * y1 + 16384 * y2 + 2097152 * y3 + 268435456 * z4 : Nat) : Int), .int .i64 ((5 : Nat) : Int)]) := by
    have e0 : ((y0 : Nat) : Int) % 4294967296 = ((y0 : Nat) : Int) := by omega
    have e1 := u32or' (y0) y1 7 128 128 rfl (by omega) (by omega) (by omega)
    have e2 := u32or' (y0 + 128 * y1) y2 14 16384 16384 rfl (by omega) (by omega) (by omega)
    have e3 := u32or' (y0 + 128 * y1 + 16384 * y2) y3 21 2097152 2097152 rfl (by omega) (by omega) (by omega)
    have e4 := u32or4 (y0 + 128 * y1 + 16384 * y2 + 2097152 * y3) z4 (by omega) b4
    rw [e0, e1, e2, e3, e4]
    rfl
  have Z := Lib.hid (And.intro hlen (And.intro hr fin))
  clear hlen hr fin b0 b1 b2 b3 b4
  go_enter Tryd.func125, Tryd.ntmps125
  go_wp2
  apply wp_scope_straight
  go_wp2_with fail
  refine noGoto_ret ?_
  go_ret2
  exact .good (k := 5) ⟨by omega, by rw [← Z.out.1]; omega⟩ Z.out.2.1 Z.out.2.2 rfl
set_option maxHeartbeats 2000000 in
theorem uvL0 (bs : List UInt8) (w : World) (ad : Option Addr) (n cap : Nat)  (hn : (0 : Int) ≤ n) (hn2 : (n : Int) < 1)   (hr : rdUv bs = none) :
    Calls Tryd.prog 125 #[.slice ad n cap] w (UvOut bs w) := by
  have Z := Lib.hid hr
  clear hr
  go_enter Tryd.func125, Tryd.ntmps125
  go_wp2
  refine wp_scope_jumps 0 (fun a' w' => w = w' ∧ aget a' 5 = .int .i64 0 ∧ a'.tmps.size = 87 ∧ a'.defers = []) (fun _ _ => 0) rfl ?_ ?_
  · go_wp2_with fail
    refine wp_goto ?_
    exact ⟨rfl, rfl, rfl, rfl, rfl⟩
  · rintro a' w' ⟨rfl, h5, hs, hd⟩
    exact uv_rest (fn := Tryd.f125) (R := UvOut bs w) rfl h5 hs hd (.bad (by omega) Z.out rfl rfl) (fun _ _ h => h)
set_option maxHeartbeats 2000000 in
theorem uvL1 (bs : List UInt8) (w : World) (b o n cap : Nat) (z0 y0 : Nat) (hn : (1 : Int) ≤ n) (hn2 : (n : Int) < 2) (c0 : w.cell? ⟨b, o, none⟩ = some (.int .u8 (z0 : Nat))) (h0 : bits BinOp.and IntKind.u8 (z0 : Nat) 127 = (y0 : Nat)) (k0 : bits BinOp.and IntKind.u8 (z0 : Nat) 128 = 128) (hr : rdUv bs = none) :
    Calls Tryd.prog 125 #[.slice (some ⟨b, o, none⟩) n cap] w (UvOut bs w) := by
  have Z := Lib.hid hr
  clear hr
  go_enter Tryd.func125, Tryd.ntmps125
  go_wp2
  refine wp_scope_jumps 0 (fun a' w' => w = w' ∧ aget a' 5 = .int .i64 0 ∧ a'.tmps.size = 87 ∧ a'.defers = []) (fun _ _ => 0) rfl ?_ ?_
  · go_wp2_with fail
    refine wp_goto ?_
    exact ⟨rfl, rfl, rfl, rfl, rfl⟩
  · rintro a' w' ⟨rfl, h5, hs, hd⟩
    exact uv_rest (fn := Tryd.f125) (R := UvOut bs w) rfl h5 hs hd (.bad (by omega) Z.out rfl rfl) (fun _ _ h => h)
set_option maxHeartbeats 2000000 in
theorem uvL2 (bs : List UInt8) (w : World) (b o n cap : Nat) (z0 z1 y0 y1 : Nat) (hn : (2 : Int) ≤ n) (hn2 : (n : Int) < 3) (c0 : w.cell? ⟨b, o, none⟩ = some (.int .u8 (z0 : Nat))) (c1 : w.cell? ⟨b, o + 1, none⟩ = some (.int .u8 (z1 : Nat))) (h0 : bits BinOp.and IntKind.u8 (z0 : Nat) 127 = (y0 : Nat)) (k0 : bits BinOp.and IntKind.u8 (z0 : Nat) 128 = 128) (h1 : bits BinOp.and IntKind.u8 (z1 : Nat) 127 = (y1 : Nat)) (k1 : bits BinOp.and IntKind.u8 (z1 : Nat) 128 = 128) (hr : rdUv bs = none) :
    Calls Tryd.prog 125 #[.slice (some ⟨b, o, none⟩) n cap] w (UvOut bs w) := by
  have Z := Lib.hid hr
  clear hr
  go_enter Tryd.func125, Tryd.ntmps125
  go_wp2
  refine wp_scope_jumps 0 (fun a' w' => w = w' ∧ aget a' 5 = .int .i64 0 ∧ a'.tmps.size = 87 ∧ a'.defers = []) (fun _ _ => 0) rfl ?_ ?_
  · go_wp2_with fail
    refine wp_goto ?_
    exact ⟨rfl, rfl, rfl, rfl, rfl⟩
  · rintro a' w' ⟨rfl, h5, hs, hd⟩
    exact uv_rest (fn := Tryd.f125) (R := UvOut bs w) rfl h5 hs hd (.bad (by omega) Z.out rfl rfl) (fun _ _ h => h)
set_option maxHeartbeats 2000000 in
theorem uvL3 (bs : List UInt8) (w : World) (b o n cap : Nat) (z0 z1 z2 y0 y1 y2 : Nat) (hn : (3 : Int) ≤ n) (hn2 : (n : Int) < 4) (c0 : w.cell? ⟨b, o, none⟩ = some (.int .u8 (z0 : Nat))) (c1 : w.cell? ⟨b, o + 1, none⟩ = some (.int .u8 (z1 : Nat))) (c2 : w.cell? ⟨b, o + 2, none⟩ = some (.int .u8 (z2 : Nat))) (h0 : bits BinOp.and IntKind.u8 (z0 : Nat) 127 = (y0 : Nat)) (k0 : bits BinOp.and IntKind.u8 (z0 : Nat) 128 = 128) (h1 : bits BinOp.and IntKind.u8 (z1 : Nat) 127 = (y1 : Nat)) (k1 : bits BinOp.and IntKind.u8 (z1 : Nat) 128 = 128) (h2 : bits BinOp.and IntKind.u8 (z2 : Nat) 127 = (y2 : Nat)) (k2 : bits BinOp.and IntKind.u8 (z2 : Nat) 128 = 128) (hr : rdUv bs = none) :
    Calls Tryd.prog 125 #[.slice (some ⟨b, o, none⟩) n cap] w (UvOut bs w) := by
  have Z := Lib.hid hr
  clear hr
  go_enter Tryd.func125, Tryd.ntmps125
  go_wp2
  refine wp_scope_jumps 0 (fun a' w' => w = w' ∧ aget a' 5 = .int .i64 0 ∧ a'.tmps.size = 87 ∧ a'.defers = []) (fun _ _ => 0) rfl ?_ ?_
  · go_wp2_with fail
    refine wp_goto ?_
    exact ⟨rfl, rfl, rfl, rfl, rfl⟩
  · rintro a' w' ⟨rfl, h5, hs, hd⟩
    exact uv_rest (fn := Tryd.f125) (R := UvOut bs w) rfl h5 hs hd (.bad (by omega) Z.out rfl rfl) (fun _ _ h => h)
set_option maxHeartbeats 2000000 in
theorem uvL4 (bs : List UInt8) (w : World) (b o n cap : Nat) (z0 z1 z2 z3 y0 y1 y2 y3 : Nat) (hn : (4 : Int) ≤ n) (hn2 : (n : Int) < 5) (c0 : w.cell? ⟨b, o, none⟩ = some (.int .u8 (z0 : Nat))) (c1 : w.cell? ⟨b, o + 1, none⟩ = some (.int .u8 (z1 : Nat))) (c2 : w.cell? ⟨b, o + 2, none⟩ = some (.int .u8 (z2 : Nat))) (c3 : w.cell? ⟨b, o + 3, none⟩ = some (.int .u8 (z3 : Nat))) (h0 : bits BinOp.and IntKind.u8 (z0 : Nat) 127 = (y0 : Nat)) (k0 : bits BinOp.and IntKind.u8 (z0 : Nat) 128 = 128) (h1 : bits BinOp.and IntKind.u8 (z1 : Nat) 127 = (y1 : Nat)) (k1 : bits BinOp.and IntKind.u8 (z1 : Nat) 128 = 128) (h2 : bits BinOp.and IntKind.u8 (z2 : Nat) 127 = (y2 : Nat)) (k2 : bits BinOp.and IntKind.u8 (z2 : Nat) 128 = 128) (h3 : bits BinOp.and IntKind.u8 (z3 : Nat) 127 = (y3 : Nat)) (k3 : bits BinOp.and IntKind.u8 (z3 : Nat) 128 = 128) (hr : rdUv bs = none) :
    Calls Tryd.prog 125 #[.slice (some ⟨b, o, none⟩) n cap] w (UvOut bs w) := by
  have Z := Lib.hid hr
  clear hr
  go_enter Tryd.func125, Tryd.ntmps125
  go_wp2
  refine wp_scope_jumps 0 (fun a' w' => w = w' ∧ aget a' 5 = .int .i64 0 ∧ a'.tmps.size = 87 ∧ a'.defers = []) (fun _ _ => 0) rfl ?_ ?_
  · go_wp2_with fail
    refine wp_goto ?_
    exact ⟨rfl, rfl, rfl, rfl, rfl⟩
  · rintro a' w' ⟨rfl, h5, hs, hd⟩
    exact uv_rest (fn := Tryd.f125) (R := UvOut bs w) rfl h5 hs hd (.bad (by omega) Z.out rfl rfl) (fun _ _ h => h)
set_option maxHeartbeats 2000000 in
theorem uvOver (bs : List UInt8) (w : World) (b o n cap : Nat) (z0 z1 z2 z3 z4 y0 y1 y2 y3 : Nat) (hn : (5 : Int) ≤ n) (c0 : w.cell? ⟨b, o, none⟩ = some (.int .u8 (z0 : Nat))) (c1 : w.cell? ⟨b, o + 1, none⟩ = some (.int .u8 (z1 : Nat))) (c2 : w.cell? ⟨b, o + 2, none⟩ = some (.int .u8 (z2 : Nat))) (c3 : w.cell? ⟨b, o + 3, none⟩ = some (.int .u8 (z3 : Nat))) (c4 : w.cell? ⟨b, o + 4, none⟩ = some (.int .u8 (z4 : Nat))) (h0 : bits BinOp.and IntKind.u8 (z0 : Nat) 127 = (y0 : Nat)) (k0 : bits BinOp.and IntKind.u8 (z0 : Nat) 128 = 128) (h1 : bits BinOp.and IntKind.u8 (z1 : Nat) 127 = (y1 : Nat)) (k1 : bits BinOp.and IntKind.u8 (z1 : Nat) 128 = 128) (h2 : bits BinOp.and IntKind.u8 (z2 : Nat) 127 = (y2 : Nat)) (k2 : bits BinOp.and IntKind.u8 (z2 : Nat) 128 = 128) (h3 : bits BinOp.and IntKind.u8 (z3 : Nat) 127 = (y3 : Nat)) (k3 : bits BinOp.and IntKind.u8 (z3 : Nat) 128 = 128) (h4 : ¬ (z4 : Int) ≤ 15) (hr : rdUv bs = none) :
    Calls Tryd.prog 125 #[.slice (some ⟨b, o, none⟩) n cap] w (UvOut bs w) := by
  have Z := Lib.hid hr
  clear hr
  go_enter Tryd.func125, Tryd.ntmps125
  go_wp2
  apply wp_scope_straight
  go_wp2_with fail
  refine wp_label ?_
  go_wp2_with fail
  refine noGoto_ret ?_
  go_ret2
  exact .bad (n := -5) (by omega) Z.out rfl rfl
end Go.Proofs.YtellhjpdpaeieaaDoor
