/- What the reference writes of a value, a field and a part: by what it writes of the parts below. -/
import Derived.Test.YtkhpglongkhbjaaSpb
import Derived.StillTailTactics
import Derived.Laws.CopyOwn
namespace Go.Proofs.Ytkhpglongkhbjaa
open Go Go.RowKit

theorem spFixed (n : Int) (k : Int) (base : Nat) (w : World) (hb : base ≤ w.heap.size) : Gives Try.prog 49 #[.int .i64 n, .int .i64 ((pWidth k : Nat) : Int)] w base (fixed n (pWidth k)) := by
  have h : pWidth k = 1 ∨ pWidth k = 2 ∨ pWidth k = 4 ∨ pWidth k = 8 := by
    unfold pWidth
    split
    · simp
    split
    · simp
    split <;> simp
  rcases h with h | h | h | h <;> rw [h]
  · exact spFixed1 n base w hb
  · exact spFixed2 n base w hb
  · exact spFixed4 n base w hb
  · exact spFixed8 n base w hb

set_option maxRecDepth 100000 in
set_option maxHeartbeats 800000 in
theorem spValueNum (k : Int) (h0 : k ≠ 0) (h7 : k ≠ 7) (h8 : k ≠ 8) (h9 : k ≠ 9) (h10 : k ≠ 10) (fv : Value) (null : Bool) (ver : Int) (flex : Bool) (n : Int) (sv lv uv : Value) (nb : Bool) (base : Nat) (w : World) (hb : base ≤ w.heap.size) :
    Gives Try.prog 48 #[.int .i64 k, fv, .bool null, .int .i64 ver, .bool flex, .agg #[.int .i64 n, sv, .bool nb, lv, uv]] w base (fixed n (pWidth k)) := by
  have hbel := (Below.refl base w).alloc hb
  go_enter Try.func48, Try.ntmps48
  go_wp2
  refine wp_region_still_tail 4 (by kernel_rfl) (by kernel_rfl) ?_
  simp only [List.take_succ_cons, List.take_zero, List.drop_succ_cons, List.drop_zero]
  have hbel2 := (hbel (Obj.cells #[.int .i64 n, sv, .bool nb, lv, uv] 35)).drew
  have hcell := ((Blk.alloc_new w [.int .i64 n, sv, .bool nb, lv, uv] 35).drew).cell_some (i := 0) rfl
  change wpStill _ _ (World.drew (w.alloc (Obj.cells #[.int .i64 n, sv, .bool nb, lv, uv] 35))) (fun a' => wpList _ _ _ _ a' (World.drew (w.alloc (Obj.cells #[.int .i64 n, sv, .bool nb, lv, uv] 35)))) _ _
  change (World.drew (w.alloc (Obj.cells #[.int .i64 n, sv, .bool nb, lv, uv] 35))).cell? _ = _ at hcell
  generalize World.drew (w.alloc (Obj.cells #[.int .i64 n, sv, .bool nb, lv, uv] 35)) = w2 at *
  repeat still_step
  still_call (spWidth k _)
  refine wpStill_nil ?_
  go_wp2_with fail
  refine (spFixed n k base w2 (Nat.le_trans hb hbel2.size)).mono ?_
  rintro e w' ⟨v', rfl, hown, hb2⟩
  go_wp2
  go_ret
  exact .mk hown (hbel2.trans hb2)

theorem and1_64 (n : Int) : bits BinOp.and IntKind.i64 n 1 % 256 = n % 2 := by
  have e2 : bits BinOp.and IntKind.i64 n 1 = IntKind.i64.wrap (((BitVec.ofInt 64 n &&& BitVec.ofInt 64 1).toNat : Nat) : Int) := by
    unfold bits
    rfl
  have e : (BitVec.ofInt 64 n &&& BitVec.ofInt 64 1).toNat = (n % 2).toNat := by
    have h := Nat.and_one_is_mod (n % 18446744073709551616).toNat
    rw [BitVec.toNat_and, BitVec.toNat_ofInt, BitVec.toNat_ofInt]
    simp
    omega
  rw [e2, e, IntKind.wrap_i64]
  omega

set_option maxRecDepth 100000 in
set_option maxHeartbeats 800000 in
theorem spValueBool (fv : Value) (null : Bool) (ver : Int) (flex : Bool) (n : Int) (sv lv uv : Value) (nb : Bool) (base : Nat) (w : World) (hb : base ≤ w.heap.size) :
    Gives Try.prog 48 #[.int .i64 0, fv, .bool null, .int .i64 ver, .bool flex, .agg #[.int .i64 n, sv, .bool nb, lv, uv]] w base [bb (n % 2)] := by
  have hbel := (Below.refl base w).alloc hb
  go_enter Try.func48, Try.ntmps48
  go_wp2
  go_ret
  have h := Own.fresh base (w.alloc (.cells #[.int .i64 n, sv, .bool nb, lv, uv] 35)) (Nat.le_trans hb (by simp)) [bb (n % 2)] (by simp)
  simp only [List.map_cons, List.map_nil, byteV_bb] at h
  rw [show n % 2 % 256 = bits BinOp.and IntKind.i64 n 1 % 256 by rw [and1_64]; omega] at h
  rw [show (w.alloc (.cells #[.int .i64 n, sv, .bool nb, lv, uv] 35)).heap.size = w.heap.size + 1 by simp] at h
  exact .mk h ((hbel _).alloc (Nat.le_trans hb (by simp)) _)

theorem halt_copy {P : Program} {w : World} {ops : Array Oper} {rest : List Oper} {a : Act} {Q : Exit → Act → World → Prop} {d x y : Nat} {t : Array TypeId} {ty : TypeId} {pos : String} {af : Array Edge}
    (h : Halted (wpList P ops Q (⟨some d, .call { callee := .builtin .copy, args := #[.tmp x, .tmp y], argTypes := t }, ty, pos, af, none⟩ :: rest) a w)) : wpList P ops Q (⟨some d, .call { callee := .builtin .copy, args := #[.tmp x, .tmp y], argTypes := t }, ty, pos, af, none⟩ :: rest) a w := h
theorem RL.nil (B : Nat) (w : World) : RL B w (.slice none 0 0) [] := ⟨none, 0, rfl, Nat.le_refl _, by omega, fun h => absurd rfl h⟩
theorem RL.mono {B B' : Nat} {w : World} {v : Value} {bs : List UInt8} (h : RL B w v bs) (hB : B ≤ B') : RL B' w v bs := by
  obtain ⟨a, cap, hv, h1, h2, h3⟩ := h
  refine ⟨a, cap, hv, h1, h2, fun hne => ?_⟩
  obtain ⟨b, o, ha, hb, hc⟩ := h3 hne
  exact ⟨b, o, ha, by omega, hc⟩
theorem fixed_length (n : Int) (k : Nat) : (fixed n k).length ≤ 8 := by
  unfold fixed
  split
  · simp
  split
  · simp [be16]
  split <;> simp [be32, be64]
theorem counted_length (flex null : Bool) (n k : Nat) : (counted flex null n k).length ≤ 100 := by
  unfold counted
  have h1 := fixed_length (-1) k
  have h2 := fixed_length n k
  have h3 := uv_length (n + 1)
  cases flex <;> cases null <;> simp <;> omega
/-- 16 octets, all 0. -/
def zz16 : List Value := List.replicate 16 (.int .u8 0)
theorem makes16 (w : World) : (Instr.makeSlice 28 (.int .i64 16) (.int .i64 16)).run Try.prog w = .ok (.slice (some ⟨w.heap.size, 0, none⟩) 16 16) (w.alloc (.cells zz16.toArray 5)) := by kernel_rfl
theorem uuid16_cells (s : List UInt8) : splice zz16 0 ((s.take 16).map byteV) = (uuid16 s).map byteV := by
  unfold splice uuid16 zz16
  simp only [List.take_zero, List.nil_append, Nat.zero_add, List.length_map, List.length_take]
  by_cases h : s.length ≤ 16
  · rw [List.take_of_length_le h, List.take_append, List.take_of_length_le h, List.map_append, List.take_replicate, List.map_replicate, List.drop_replicate]
    congr 3
    omega
  · rw [List.take_append_of_le_length (by omega), List.drop_of_length_le (by simp; omega), List.append_nil]
theorem uuid16_length (s : List UInt8) : (uuid16 s).length = 16 := by simp [uuid16]
set_option maxRecDepth 100000 in
set_option maxHeartbeats 800000 in
theorem spValueUuid (fv : Value) (null : Bool) (ver : Int) (flex : Bool) (n : Int) (s : List UInt8) (sv lv uv : Value) (nb : Bool) (base B : Nat) (w : World) (hB : B ≤ base) (hb : base ≤ w.heap.size) (hs : RL B w sv s) :
    Gives Try.prog 48 #[.int .i64 7, fv, .bool null, .int .i64 ver, .bool flex, .agg #[.int .i64 n, sv, .bool nb, lv, uv]] w base (uuid16 s) := by
  obtain ⟨a, cap, rfl, h1, h2, h3⟩ := hs
  have H := Lib.hid h3
  clear h3
  have hm := makes16
  go_enter Try.func48, Try.ntmps48
  go_wp2_with (with_reducible refine halt_copy ?_)
  have hb1 := fun o => (Below.refl base w).alloc hb o
  have hb2 := fun o o' => (hb1 o).alloc (Nat.le_trans hb (by simp)) o'
  have hlen : ((s.take 16).map byteV).length = Nat.min s.length 16 := by rw [List.length_map, List.length_take]; exact Nat.min_comm _ _
  refine wpList_copy_splice rfl (.tmp 27) (.tmp 29) 28 28 rfl 5 Try.underlying28 (by kernel_rfl) (some ⟨w.heap.size + 1, 0, none⟩) a 16 16 s.length cap rfl rfl (w.heap.size + 1) 0 zz16 5 (Blk.alloc_new2 w _ zz16 _) ((s.take 16).map byteV) hlen
    (fun hp => ⟨rfl, ?_⟩) (by simp [zz16]; omega) (by intro v hv; obtain ⟨_, _, rfl⟩ := List.mem_map.1 hv; rfl) base w (hb2 _ _) (by omega) ?_
  · have hne : s ≠ [] := by
      intro e
      subst e
      simp at hp
    obtain ⟨b, o, ha, hbB, hc⟩ := H.out hne
    refine ⟨_, ha, fun j v hj => ?_⟩
    rw [Addr.add_lit]
    simp only [List.getElem?_map, List.getElem?_take] at hj
    split at hj
    · cases hu : s[j]? with
      | none => simp [hu] at hj
      | some u =>
        rw [hu] at hj
        cases hj
        exact ((hb2 _ _).cell (p := ⟨b, _, none⟩) (by show b < base; omega)).trans (hc j u hu)
    · simp at hj
  intro w3 hw3 hbel3
  have hw3 := hw3.out
  rw [uuid16_cells] at hw3
  have W3 := Lib.hid hw3
  clear hw3 H
  go_wp2
  go_ret
  refine .mk (v' := .slice (some ⟨w.heap.size + 1, 0, none⟩) 16 16) ⟨?_, .inr ⟨w.heap.size + 1, 16, _, ?_, by omega, W3.out, ?_, by simp [maxLen], ?_, ?_⟩⟩ hbel3
  · rw [Nat.mul_one]; simp
  · rw [uuid16_length]
  · rw [uuid16_length]; omega
  · simp [uuid16_length]
  · show List.take ((uuid16 s).length * 1) _ = _
    rw [Nat.mul_one]
    exact List.take_of_length_le (by simp)

set_option maxRecDepth 100000 in
set_option maxHeartbeats 800000 in
theorem spValueText_true (fv : Value) (ver : Int) (flex : Bool) (n : Int) (s : List UInt8) (sv lv uv : Value) (nb : Bool) (base B : Nat) (w : World) (hB : B ≤ base) (hb : base ≤ w.heap.size) (hs : RL B w sv s) :
    Gives Try.prog 48 #[.int .i64 8, fv, .bool true, .int .i64 ver, .bool flex, .agg #[.int .i64 n, sv, .bool nb, lv, uv]] w base (counted flex true (([] : List UInt8)).length 2 ++ ([] : List UInt8)) := by
  have hbel := (Below.refl base w).alloc hb (.cells #[.int .i64 n, sv, .bool nb, lv, uv] 35)
  have hw : (whole s).length ≤ 32767 := by unfold whole; rw [List.length_take]; omega
  have hc1 : (counted flex true (([] : List UInt8)).length 2).length ≤ 100 := counted_length _ _ _ _
  go_enter Try.func48, Try.ntmps48
  go_wp2_with fail
  refine (spWhole s sv B _ (hs.below (hbel.mono hB))).mono ?_
  rintro e w' ⟨v1, rfl, hv1, rfl⟩
  obtain ⟨a1, cap1, hv1e, hv1r⟩ := id hv1
  subst hv1e
  go_wp2_with fail
  refine (spCounted flex true (([] : List UInt8)).length 2 (by first | omega | simp) (by simp) base _ (Nat.le_trans hb hbel.size)).mono ?_
  rintro e w' ⟨v2, rfl, hown, hb2⟩
  have hown : Own base w' v2 (counted flex true (([] : List UInt8)).length 2) := hown
  go_wp2_with (at_builtin; refine halted ?_)
  refine wpl_append_from bt rfl _ _ rfl base _ hown (Nat.le_trans hb ((hbel.trans hb2).size)) (([] : List UInt8)) (Src.ofRL (B := base) Try.underlying28 (RL.nil _ _)) (by unfold lim; first | omega | (simp only [List.length_nil] at *; omega)) ?_
  intro v3 w3 hown3 hbel3
  go_wp2
  go_ret
  exact .mk hown3 ((hbel.trans hb2).trans hbel3)
set_option maxRecDepth 100000 in
set_option maxHeartbeats 800000 in
theorem spValueText_false (fv : Value) (ver : Int) (flex : Bool) (n : Int) (s : List UInt8) (sv lv uv : Value) (nb : Bool) (base B : Nat) (w : World) (hB : B ≤ base) (hb : base ≤ w.heap.size) (hs : RL B w sv s) :
    Gives Try.prog 48 #[.int .i64 8, fv, .bool false, .int .i64 ver, .bool flex, .agg #[.int .i64 n, sv, .bool nb, lv, uv]] w base (counted flex false (whole s).length 2 ++ whole s) := by
  have hbel := (Below.refl base w).alloc hb (.cells #[.int .i64 n, sv, .bool nb, lv, uv] 35)
  have hw : (whole s).length ≤ 32767 := by unfold whole; rw [List.length_take]; omega
  have hc1 : (counted flex false (whole s).length 2).length ≤ 100 := counted_length _ _ _ _
  go_enter Try.func48, Try.ntmps48
  go_wp2_with fail
  refine (spWhole s sv B _ (hs.below (hbel.mono hB))).mono ?_
  rintro e w' ⟨v1, rfl, hv1, rfl⟩
  obtain ⟨a1, cap1, hv1e, hv1r⟩ := id hv1
  subst hv1e
  go_wp2_with fail
  refine (spCounted flex false (whole s).length 2 (by first | omega | simp) (by simp) base _ (Nat.le_trans hb hbel.size)).mono ?_
  rintro e w' ⟨v2, rfl, hown, hb2⟩
  have hown : Own base w' v2 (counted flex false (whole s).length 2) := hown
  go_wp2_with (at_builtin; refine halted ?_)
  refine wpl_append_from bt rfl _ _ rfl base _ hown (Nat.le_trans hb ((hbel.trans hb2).size)) (whole s) (Src.ofRL (B := base) Try.underlying28 ((hv1.mono hB).below hb2)) (by unfold lim; first | omega | (simp only [List.length_nil] at *; omega)) ?_
  intro v3 w3 hown3 hbel3
  go_wp2
  go_ret
  exact .mk hown3 ((hbel.trans hb2).trans hbel3)
set_option maxRecDepth 100000 in
set_option maxHeartbeats 800000 in
theorem spValueBytes_true (fv : Value) (ver : Int) (flex : Bool) (n : Int) (s : List UInt8) (sv lv uv : Value) (nb : Bool) (base B : Nat) (w : World) (hB : B ≤ base) (hb : base ≤ w.heap.size) (hs : RL B w sv s) :
    Gives Try.prog 48 #[.int .i64 9, fv, .bool true, .int .i64 ver, .bool flex, .agg #[.int .i64 n, sv, .bool nb, lv, uv]] w base (counted flex true (([] : List UInt8)).length 4 ++ ([] : List UInt8)) := by
  have hbel := (Below.refl base w).alloc hb (.cells #[.int .i64 n, sv, .bool nb, lv, uv] 35)
  have hw : (whole s).length ≤ 32767 := by unfold whole; rw [List.length_take]; omega
  have hc1 : (counted flex true (([] : List UInt8)).length 4).length ≤ 100 := counted_length _ _ _ _
  go_enter Try.func48, Try.ntmps48
  go_wp2_with fail
  refine (spWhole s sv B _ (hs.below (hbel.mono hB))).mono ?_
  rintro e w' ⟨v1, rfl, hv1, rfl⟩
  obtain ⟨a1, cap1, hv1e, hv1r⟩ := id hv1
  subst hv1e
  go_wp2_with fail
  refine (spCounted flex true (([] : List UInt8)).length 4 (by first | omega | simp) (by simp) base _ (Nat.le_trans hb hbel.size)).mono ?_
  rintro e w' ⟨v2, rfl, hown, hb2⟩
  have hown : Own base w' v2 (counted flex true (([] : List UInt8)).length 4) := hown
  go_wp2_with (at_builtin; refine halted ?_)
  refine wpl_append_from bt rfl _ _ rfl base _ hown (Nat.le_trans hb ((hbel.trans hb2).size)) (([] : List UInt8)) (Src.ofRL (B := base) Try.underlying28 (RL.nil _ _)) (by unfold lim; first | omega | (simp only [List.length_nil] at *; omega)) ?_
  intro v3 w3 hown3 hbel3
  go_wp2
  go_ret
  exact .mk hown3 ((hbel.trans hb2).trans hbel3)
set_option maxRecDepth 100000 in
set_option maxHeartbeats 800000 in
theorem spValueBytes_false (fv : Value) (ver : Int) (flex : Bool) (n : Int) (s : List UInt8) (sv lv uv : Value) (nb : Bool) (base B : Nat) (w : World) (hB : B ≤ base) (hb : base ≤ w.heap.size) (hs : RL B w sv s) :
    Gives Try.prog 48 #[.int .i64 9, fv, .bool false, .int .i64 ver, .bool flex, .agg #[.int .i64 n, sv, .bool nb, lv, uv]] w base (counted flex false (whole s).length 4 ++ whole s) := by
  have hbel := (Below.refl base w).alloc hb (.cells #[.int .i64 n, sv, .bool nb, lv, uv] 35)
  have hw : (whole s).length ≤ 32767 := by unfold whole; rw [List.length_take]; omega
  have hc1 : (counted flex false (whole s).length 4).length ≤ 100 := counted_length _ _ _ _
  go_enter Try.func48, Try.ntmps48
  go_wp2_with fail
  refine (spWhole s sv B _ (hs.below (hbel.mono hB))).mono ?_
  rintro e w' ⟨v1, rfl, hv1, rfl⟩
  obtain ⟨a1, cap1, hv1e, hv1r⟩ := id hv1
  subst hv1e
  go_wp2_with fail
  refine (spCounted flex false (whole s).length 4 (by first | omega | simp) (by simp) base _ (Nat.le_trans hb hbel.size)).mono ?_
  rintro e w' ⟨v2, rfl, hown, hb2⟩
  have hown : Own base w' v2 (counted flex false (whole s).length 4) := hown
  go_wp2_with (at_builtin; refine halted ?_)
  refine wpl_append_from bt rfl _ _ rfl base _ hown (Nat.le_trans hb ((hbel.trans hb2).size)) (whole s) (Src.ofRL (B := base) Try.underlying28 ((hv1.mono hB).below hb2)) (by unfold lim; first | omega | (simp only [List.length_nil] at *; omega)) ?_
  intro v3 w3 hown3 hbel3
  go_wp2
  go_ret
  exact .mk hown3 ((hbel.trans hb2).trans hbel3)
end Go.Proofs.Ytkhpglongkhbjaa
