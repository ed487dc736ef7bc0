/- What kbin writes: each function appends just these bytes to bytes of the call's own. -/
import Derived.Test.YtfchajjllhndlaaProg
import Derived.Test.YtfchajjllhndlaaAppend
import Derived.Test.YtfchajjllhndlaaPure
namespace Go.Proofs.Ytfchajjllhndlaa
open Go Go.RowKit
set_option linter.unusedVariables false

/-- The ending of a function that appends: the bytes bs, of the call's own; below base nothing has turned. -/
def Appended (base : Nat) (w : World) (bs : List UInt8) (e : Ending) (w' : World) : Prop := ∃ v', e = .returned v' ∧ Own base w' v' bs ∧ Below base w w'
/-- Function f, with one argument behind the bytes, appends new. -/
def AppC (P : Program) (f : Nat) (arg : Value) (new : List UInt8) : Prop :=
  ∀ (base : Nat) (w : World) (v : Value) (bs : List UInt8), Own base w v bs → base ≤ w.heap.size → bs.length + new.length ≤ lim → Calls P f #[v, arg] w (Appended base w (bs ++ new))
/-- The same of an argument that lies in memory. -/
def AppM (P : Program) (f : Nat) (pre : World → Value → List UInt8 → Prop) : Prop :=
  ∀ (arg : Value) (new : List UInt8) (base : Nat) (w : World) (v : Value) (bs : List UInt8), pre w arg new → Own base w v bs → base ≤ w.heap.size → bs.length + new.length ≤ lim → Calls P f #[v, arg] w (Appended base w (bs ++ new))
theorem Appended.mk {base : Nat} {w : World} {bs : List UInt8} {v' : Value} {w' : World} (h : Own base w' v' bs) (hb : Below base w w') : Appended base w bs (.returned v') w' := ⟨v', rfl, h, hb⟩

theorem Try.bytesInfo : (Try.prog.info? 5).map (fun i => (i.zero, i.size, i.bytes)) = some (some (.int .u8 0), 1, 1) := by kernel_rfl
theorem bt : BytesT Try.prog 29 5 := ⟨Try.underlying29, info_parts Try.bytesInfo, Try.underlying5⟩
theorem byteV_bb (n : Int) : byteV (bb n) = Value.int .u8 (n % 256) := by
  unfold byteV bb
  congr 1
  simp
  omega
theorem byteV_nat {n : Nat} (h : n < 256) : byteV (UInt8.ofNat n) = Value.int .u8 (n : Int) := by
  unfold byteV
  congr 1
  simp
  omega

set_option maxHeartbeats 400000 in
theorem appendInt8 (x : Int) (h0 : -128 ≤ x) (h1 : x ≤ 127) : AppC Try.prog 26 (.int .i8 x) [bb x] := by
  intro base w v bs hown hb hl
  go_enter Try.func26, Try.ntmps26
  go_wp2_with (at_builtin; refine halted ?_)
  refine wpl_append_bytes bt rfl _ _ rfl base bs hown hb _ [bb x] ?_ rfl hl ?_
  · simp only [List.map_cons, List.map_nil, byteV_bb]
  intro v' w' hown' hbel
  go_wp2
  go_ret
  exact .mk hown' hbel
set_option maxRecDepth 100000 in
set_option maxHeartbeats 400000 in
theorem appendUint32 (x : Int) (h0 : 0 ≤ x) (h1 : x ≤ 4294967295) : AppC Try.prog 29 (.int .u32 x) (be32 x) := by
  intro base w v bs hown hb hl
  go_enter Try.func29, Try.ntmps29
  go_wp2_with (at_builtin; refine halted ?_)
  refine wpl_append_bytes bt rfl _ _ rfl base bs hown hb _ (be32 x) ?_ rfl hl ?_
  · have e : x / 16777216 % 256 = x / 16777216 := by omega
    simp only [be32, List.map_cons, List.map_nil, byteV_bb, e]
  intro v' w' hown' hbel
  go_wp2
  go_ret
  exact .mk hown' hbel
set_option maxRecDepth 100000 in
set_option maxHeartbeats 400000 in
theorem appendInt32 (x : Int) (h0 : -2147483648 ≤ x) (h1 : x ≤ 2147483647) : AppC Try.prog 25 (.int .i32 x) (be32 x) := by
  intro base w v bs hown hb hl
  go_enter Try.func25, Try.ntmps25
  go_wp2_with fail
  refine (appendUint32 (x % 4294967296) (by omega) (by omega) base w v bs hown hb hl).mono ?_
  rintro e w' ⟨v', rfl, hown', hbel⟩
  rw [be32_mod] at hown'
  go_wp2
  go_ret
  exact .mk hown' hbel
set_option maxRecDepth 100000 in
set_option maxHeartbeats 1000000 in
theorem appendUint64 (x : Int) (h0 : 0 ≤ x) (h1 : x / 72057594037927936 ≤ 255) : AppC Try.prog 28 (.int .u64 x) (be64 x) := by
  intro base w v bs hown hb hl
  go_enter Try.func28, Try.ntmps28
  go_wp2_with (at_builtin; refine halted ?_)
  refine wpl_append_bytes bt rfl _ _ rfl base bs hown hb _ (be64 x) ?_ rfl hl ?_
  · have e : x / 72057594037927936 % 256 = x / 72057594037927936 := by omega
    simp only [be64, List.map_cons, List.map_nil, byteV_bb, e]
  intro v' w' hown' hbel
  go_wp2
  go_ret
  exact .mk hown' hbel
set_option maxRecDepth 100000 in
set_option maxHeartbeats 400000 in
theorem appendInt64 (x : Int) : AppC Try.prog 24 (.int .i64 x) (be64 x) := by
  intro base w v bs hown hb hl
  go_enter Try.func24, Try.ntmps24
  go_wp2_with fail
  refine (appendUint64 (x % 18446744073709551616) (by omega) (by omega) base w v bs hown hb hl).mono ?_
  rintro e w' ⟨v', rfl, hown', hbel⟩
  rw [be64_mod] at hown'
  go_wp2
  go_ret
  exact .mk hown' hbel


/-- A nullable text in memory below B, and what is written of it. -/
def NStr (B : Nat) (w : World) (v : Value) (s : Option ByteArray) : Prop :=
  match s with
  | none => v = .pointer none
  | some s => ∃ b o, v = .pointer (some ⟨b, o, none⟩) ∧ b < B ∧ w.cell? ⟨b, o, none⟩ = some (.string s)
theorem NStr.below {B : Nat} {w w' : World} {v : Value} {s : Option ByteArray} (h : NStr B w v s) (hk : Below B w w') : NStr B w' v s := by
  cases s with
  | none => exact h
  | some s =>
    obtain ⟨b, o, hv, hb, hc⟩ := h
    exact ⟨b, o, hv, hb, (hk.cell hb).trans hc⟩
set_option maxRecDepth 100000 in
set_option maxHeartbeats 400000 in
theorem appendBytes (b : List UInt8) (hn : b.length ≤ 2147483647) (x : Value) (base : Nat) (w : World) (v : Value) (bs : List UInt8) (hx : RL base w x b) (hown : Own base w v bs) (hb : base ≤ w.heap.size)
    (hl : bs.length + (be32 b.length ++ b).length ≤ lim) : Calls Try.prog 30 #[v, x] w (Appended base w (bs ++ (be32 b.length ++ b))) := by
  have hx2 := hx
  obtain ⟨a, cap, rfl, -⟩ := hx2
  go_enter Try.func30, Try.ntmps30
  go_wp2_with fail
  refine (appendInt32 _ (by omega) (by omega) base w v bs hown hb (by simp only [List.length_append] at hl; omega)).mono ?_
  rintro e w' ⟨v', rfl, hown', hbel⟩
  go_wp2_with (at_builtin; refine halted ?_)
  refine wpl_append_from bt rfl _ _ rfl base _ hown' (Nat.le_trans hb hbel.size) b (Src.ofRL Try.underlying29 (hx.below hbel)) (by simp only [List.length_append] at hl ⊢; omega) ?_
  intro v2 w2 hown2 hbel2
  rw [List.append_assoc] at hown2
  go_wp2
  go_ret
  exact .mk hown2 (hbel.trans hbel2)
end Go.Proofs.Ytfchajjllhndlaa
