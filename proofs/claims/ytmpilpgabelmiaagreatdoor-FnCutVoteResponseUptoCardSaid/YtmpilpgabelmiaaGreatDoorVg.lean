/- Shared texts of these proofs, laid together by merge.py: Spb, Spc, Spd, Spe, Spf, Spg, Up, Un, Spo. -/
import Derived.Test.YtmpilpgabelmiaaGreatDoorVf
import Derived.StillTailTactics
import Derived.Laws.CopyOwn
import Derived.Deep.RegionHeld3
import Derived.Laws.OwnMore
import Derived.OneCell
set_option linter.unusedVariables false
/- The reference's small functions over fields and trees. -/
namespace Go.Proofs.YtmpilpgabelmiaaGreatDoor
open Go Go.RowKit
set_option linter.unusedVariables false

/-- Function f answers v; below base nothing has turned. -/
def Says (P : Program) (f : Nat) (args : Array Value) (w : World) (base : Nat) (v : Value) : Prop := Calls P f args w fun e w' => e = .returned v ∧ Below base w w'

set_option maxHeartbeats 400000 in
theorem spWidth (k : Int) (w : World) : Calls Tryz.prog 84 #[.int .i64 k] w fun e w' => e = .returned (.int .i64 (pWidth k : Nat)) ∧ w' = w := by
  unfold pWidth
  by_cases h1 : k = 1
  · subst h1
    go_enter Tryz.func84, Tryz.ntmps84
    go_wp2
    go_ret
    exact ⟨rfl, rfl⟩
  by_cases h2 : k = 2
  · subst h2
    go_enter Tryz.func84, Tryz.ntmps84
    go_wp2
    go_ret
    exact ⟨rfl, rfl⟩
  by_cases h5 : k = 5
  · subst h5
    go_enter Tryz.func84, Tryz.ntmps84
    go_wp2
    go_ret
    exact ⟨rfl, rfl⟩
  by_cases h3 : k = 3
  · subst h3
    go_enter Tryz.func84, Tryz.ntmps84
    go_wp2
    go_ret
    exact ⟨rfl, rfl⟩
  · go_enter Tryz.func84, Tryz.ntmps84
    go_wp2
    go_ret
    simp

set_option maxHeartbeats 800000 in
theorem spHas (k fr to nu tg df ok : Int) (sv : Value) (ver : Int) (base : Nat) (w : World) (hb : base ≤ w.heap.size) :
    Says Tryz.prog 46 #[.agg #[.int .i64 k, .int .i64 fr, .int .i64 to, .int .i64 nu, .int .i64 tg, .int .i64 df, .int .i64 ok, sv], .int .i64 ver] w base (.bool (pHas fr to ver)) := by
  have hbel := (Below.refl base w).alloc hb
  unfold pHas
  by_cases h1 : fr ≤ ver <;> by_cases h2 : to < 0 <;> by_cases h3 : ver ≤ to <;>
  · go_enter Tryz.func46, Tryz.ntmps46
    go_wp2
    go_ret
    refine ⟨?_, hbel _⟩
    simp [h1, h2, h3]

set_option maxHeartbeats 800000 in
theorem spNull (k fr to nu tg df ok : Int) (sv : Value) (ver n : Int) (s : Value) (b : Bool) (l u : Value) (base : Nat) (w : World) (hb : base ≤ w.heap.size) :
    Says Tryz.prog 80 #[.agg #[.int .i64 k, .int .i64 fr, .int .i64 to, .int .i64 nu, .int .i64 tg, .int .i64 df, .int .i64 ok, sv], .int .i64 ver, .agg #[.int .i64 n, s, .bool b, l, u]] w base
      (.bool (b && decide (0 ≤ nu) && decide (nu ≤ ver))) := by
  have hbel := (Below.refl base w).alloc hb
  have hbel2 := fun o o' => (hbel o).alloc (Nat.le_trans hb (by simp)) o'
  cases b <;> by_cases h2 : 0 ≤ nu <;> by_cases h3 : nu ≤ ver <;>
  · go_enter Tryz.func80, Tryz.ntmps80
    go_wp2
    go_ret
    refine ⟨?_, hbel2 _ _⟩
    simp [h2, h3]

theorem takeCount (n : Nat) : (min (n : Int) 32767).toNat = min n 32767 := by omega
set_option maxHeartbeats 400000 in
theorem spWhole (s : List UInt8) (v : Value) (B : Nat) (w : World) (h : RL B w v s) : Calls Tryz.prog 53 #[v] w fun e w' => ∃ v', e = .returned v' ∧ RL B w v' (whole s) ∧ w = w' := by
  obtain ⟨a, cap, rfl, h1, h2, h3⟩ := h
  have H := Lib.hid h3
  clear h3
  go_enter Tryz.func53, Tryz.ntmps53
  go_wp2
  go_ret
  have hl : (whole s).length = min s.length 32767 := by unfold whole; rw [List.length_take]; omega
  refine ⟨_, rfl, ⟨a, cap, ?_, by omega, h2, fun hne => ?_⟩, rfl⟩
  · rw [hl, ← takeCount]
    rfl
  · have hs : s ≠ [] := by
      intro e
      subst e
      exact hne (by simp [whole])
    obtain ⟨b, o, ha, hb, hc⟩ := H.out hs
    refine ⟨b, o, ha, hb, fun i u hi => hc i u ?_⟩
    unfold whole at hi
    rw [List.getElem?_take] at hi
    split at hi
    · exact hi
    · cases hi

/-- Trees behind a slice's value. -/
def RepL (B : Nat) (w : World) (l : List Tree) (v : Value) : Prop :=
  ∃ (a : Option Addr) (cap : Nat) (f : Nat → List Value), v = .slice a l.length cap ∧ l.length ≤ cap ∧ cap ≤ 9223372036854775807 ∧
    (l ≠ [] → ∃ p q, a = some ⟨p, q, none⟩ ∧ p < B ∧ ∀ i, i < l.length → (f i).length = 5 ∧ ∀ j v, (f i)[j]? = some v → w.cell? ⟨p, q + 5 * i + j, none⟩ = some v) ∧
    ∀ i t, l[i]? = some t → RepT B w (f i) t
theorem RepL.keep {B : Nat} {w w' : World} {l : List Tree} {v : Value} (h : RepL B w l v) (hk : Below B w w') : RepL B w' l v := by
  obtain ⟨a, cap, f, hv, h1, h2, hl, hf⟩ := h
  refine ⟨a, cap, f, hv, h1, h2, fun hne => ?_, fun i t hi => (hf i t hi).keep hk⟩
  obtain ⟨p, q, ha, hp, h⟩ := hl hne
  exact ⟨p, q, ha, hp, fun i hi => ⟨(h i hi).1, fun j v hj => (hk.cell (p := ⟨p, _, none⟩) hp).trans ((h i hi).2 j v hj)⟩⟩
theorem RepT.parts {B : Nat} {w : World} {c : List Value} {t : Tree} (h : RepT B w c t) :
    ∃ sv lv uv, c = [.int .i64 t.n, sv, .bool t.null, lv, uv] ∧ (-9223372036854775808 ≤ t.n ∧ t.n ≤ 9223372036854775807) ∧ RL B w sv t.s ∧ RepL B w t.l lv ∧ RepU B w t.u uv := by
  cases h with
  | mk n s null l u sv uv a cap f hn hs hu hcap hl hf => exact ⟨sv, _, uv, rfl, hn, hs, ⟨a, cap, f, rfl, hcap.1, hcap.2, hl, hf⟩, hu⟩
theorem RepT.ofParts {B : Nat} {w : World} {n : Int} {s : List UInt8} {null : Bool} {l : List Tree} {u : List (Nat × List UInt8)} {sv lv uv : Value}
    (hn : -9223372036854775808 ≤ n ∧ n ≤ 9223372036854775807) (hs : RL B w sv s) (hl : RepL B w l lv) (hu : RepU B w u uv) : RepT B w [.int .i64 n, sv, .bool null, lv, uv] (.mk n s null l u) := by
  obtain ⟨a, cap, f, rfl, h1, h2, h3, h4⟩ := hl
  exact .mk n s null l u sv uv a cap f hn hs hu ⟨h1, h2⟩ h3 h4
theorem RepT.len {B : Nat} {w : World} {c : List Value} {t : Tree} (h : RepT B w c t) : c.length = 5 := by
  obtain ⟨sv, lv, uv, rfl, -⟩ := h.parts
  rfl

set_option maxHeartbeats 400000 in
theorem spThings (l : List Tree) (v : Value) (B : Nat) (w : World) (h : RepL B w l v) : Calls Tryz.prog 81 #[v] w fun e w' => ∃ v', e = .returned v' ∧ RepL B w (l.take 32767) v' ∧ w = w' := by
  obtain ⟨a, cap, f, rfl, h1, h2, h3, h4⟩ := h
  have H := Lib.hid h3
  have H4 := Lib.hid h4
  clear h3 h4
  go_enter Tryz.func81, Tryz.ntmps81
  go_wp2
  go_ret
  have hl : (l.take 32767).length = min l.length 32767 := by rw [List.length_take]; omega
  refine ⟨_, rfl, ⟨a, cap, f, ?_, by omega, h2, fun hne => ?_, fun i t hi => H4.out i t ?_⟩, rfl⟩
  · rw [hl, ← takeCount]
    rfl
  · have hs : l ≠ [] := by
      intro e
      subst e
      exact hne (by simp)
    obtain ⟨p, q, ha, hp, hc⟩ := H.out hs
    exact ⟨p, q, ha, hp, fun i hi => hc i (by omega)⟩
  · rw [List.getElem?_take] at hi
    split at hi
    · exact hi
    · cases hi

theorem Own.fresh (base : Nat) (w : World) (hb : base ≤ w.heap.size) (bs : List UInt8) (hl : bs.length ≤ 9223372036854775807 := by decide) :
    Own base (w.alloc (.cells (bs.map byteV).toArray 5)) (.slice (some ⟨w.heap.size, 0, none⟩) bs.length bs.length) bs := by
  refine ⟨by simp, .inr ⟨w.heap.size, bs.length, _, rfl, hb, heap_alloc_new w _, Nat.le_refl _, hl, by simp, ?_⟩⟩
  show List.take (bs.length * 1) (bs.map byteV) = bs.map byteV
  rw [Nat.mul_one]
  exact List.take_of_length_le (by simp)
theorem Blk.alloc_new2 (w : World) (o : Obj) (c : List Value) (T : Nat) : Blk ((w.alloc o).alloc (.cells c.toArray T)) (w.heap.size + 1) c T := by
  have h := Blk.alloc_new (w.alloc o) c T
  rwa [show (w.alloc o).heap.size = w.heap.size + 1 by simp] at h
theorem treeUnder : ∃ fs, Tryz.prog.underlying 26 = some (.struct fs) := ⟨_, Tryz.underlying26⟩
theorem treeSize : (Tryz.prog.info? 26).map (·.size) = some 5 := by kernel_rfl
theorem ret_tree {f : Nat} {fn : Func} {p : Tmp} {R : Ending → World → Prop} {a : Act} {w : World} {g : Nat} {cs : List Value} (hr : fn.results = #[.cell p 26]) (hp : a.tmps.getD p undef = .pointer (some ⟨g, 0, none⟩))
    (hg : Blk w g cs 26) (hs : cs.length = 5) (hd : a.defers = []) (h : R (.returned (.agg cs.toArray)) w) : bodyPost Tryz.prog fn R .ret a w := by
  obtain ⟨fs, hu⟩ := treeUnder
  exact bodyPost_ret_by (results_cell_row hr _ _ g _ _ (0, 0) _ hp hg hu rfl (by rw [treeSize]; simp [hs])) hd h

set_option maxRecDepth 100000 in
set_option maxHeartbeats 800000 in
theorem spCounted (flex null : Bool) (n : Nat) (size : Int) (hn : n ≤ 32768) (hs : size = 2 ∨ size = 4) (base : Nat) (w : World) (hb : base ≤ w.heap.size) :
    Gives Tryz.prog 82 #[.bool flex, .bool null, .int .i64 n, .int .i64 size] w base (counted flex null n size.toNat) := by
  unfold counted
  cases flex <;> cases null
  · rcases hs with rfl | rfl
    · go_enter Tryz.func82, Tryz.ntmps82
      go_wp2_with fail
      refine (spFixed2 n base w hb).mono ?_
      rintro e w' ⟨v', rfl, hown, hbel⟩
      go_wp2
      go_ret
      exact .mk hown hbel
    · go_enter Tryz.func82, Tryz.ntmps82
      go_wp2_with fail
      refine (spFixed4 n base w hb).mono ?_
      rintro e w' ⟨v', rfl, hown, hbel⟩
      go_wp2
      go_ret
      exact .mk hown hbel
  · rcases hs with rfl | rfl
    · go_enter Tryz.func82, Tryz.ntmps82
      go_wp2_with fail
      refine (spFixed2 (-1) base w hb).mono ?_
      rintro e w' ⟨v', rfl, hown, hbel⟩
      go_wp2
      go_ret
      exact .mk hown hbel
    · go_enter Tryz.func82, Tryz.ntmps82
      go_wp2_with fail
      refine (spFixed4 (-1) base w hb).mono ?_
      rintro e w' ⟨v', rfl, hown, hbel⟩
      go_wp2
      go_ret
      exact .mk hown hbel
  · go_enter Tryz.func82, Tryz.ntmps82
    go_wp2_with fail
    refine (spUvarint (n + 1) (by omega) base w hb).mono ?_
    rintro e w' ⟨v', rfl, hown, hbel⟩
    go_wp2
    go_ret
    exact .mk hown hbel
  · go_enter Tryz.func82, Tryz.ntmps82
    go_wp2
    go_ret
    exact .mk (Own.fresh base w hb [0]) ((Below.refl base w).alloc hb _)

set_option maxRecDepth 100000 in
set_option maxHeartbeats 800000 in
theorem spAt (t : Tree) (c : List Value) (i : Nat) (B base : Nat) (w : World) (hB : B ≤ base) (hb : base ≤ w.heap.size) (h : RepT B w c t) (hi : i ≤ 9223372036854775807) :
    Calls Tryz.prog 48 #[.agg c.toArray, .int .i64 i] w fun e w' => ∃ c', e = .returned (.agg c'.toArray) ∧ RepT B w' c' (atT t i) ∧ Below base w w' := by
  have hbel := (Below.refl base w).alloc hb
  have hbel2 := fun o o' => (hbel o).alloc (Nat.le_trans hb (by simp)) o'
  obtain ⟨sv, lv, uv, rfl, hn, hs, ⟨a, cap, f, rfl, h1, h2, h3, h4⟩, hu⟩ := h.parts
  by_cases hl : i < t.l.length
  · obtain ⟨p, q, rfl, hp, h5⟩ := h3 (by intro e; rw [e] at hl; simp at hl)
    have hget : t.l[i]? = some (t.l[i]) := List.getElem?_eq_getElem hl
    have hat : atT t i = t.l[i] := by simp [atT, hget]
    have hr := h4 i _ hget
    rw [← hat] at hr
    obtain ⟨sv', lv', uv', hc', -, ⟨sa, sc, rfl, -⟩, ⟨la, lc, lf, rfl, -⟩, ⟨ua, uc, rfl, -⟩⟩ := hr.parts
    have h6 := (h5 i hl).2
    rw [hc'] at h6
    have hps : p < w.heap.size := by omega
    have key : ∀ (o o' : Obj) j x, [Value.int .i64 (atT t i).n, .slice sa (atT t i).s.length sc, .bool (atT t i).null, .slice la (atT t i).l.length lc, .slice ua (atT t i).u.length uc][j]? = some x → ((w.alloc o).alloc o').cell? ⟨p, q + i * 5 + j, none⟩ = some x := by
      intro o o' j x hj
      have := h6 j x hj
      rw [Nat.mul_comm 5 i] at this
      exact ((hbel2 o o').cell (p := ⟨p, _, none⟩) (by show p < base; omega)).trans this
    have c0 := fun o o' => key o o' 0 _ rfl
    have c1 := fun o o' => key o o' 1 _ rfl
    have c2 := fun o o' => key o o' 2 _ rfl
    have c3 := fun o o' => key o o' 3 _ rfl
    have c4 := fun o o' => key o o' 4 _ rfl
    simp only [Nat.add_zero] at c0
    have R := Lib.hid (And.intro hr hc')
    clear h3 h4 h5 h6 hr hc' hget hat hs hu hn h key
    go_enter Tryz.func48, Tryz.ntmps48
    go_wp2
    refine ret_tree (f := 0) (g := w.heap.size + 1) (cs := [.int .i64 (atT t i).n, .slice sa (atT t i).s.length sc, .bool (atT t i).null, .slice la (atT t i).l.length lc, .slice ua (atT t i).u.length uc]) rfl rfl (.alloc_new2 _ _ _ _) rfl rfl ⟨_, rfl, ?_, hbel2 _ _⟩
    have hr := R.out.1
    rw [R.out.2] at hr
    exact hr.keep ((hbel2 _ _).mono hB)
  · have hat : atT t i = .zero := by simp [atT, List.getElem?_eq_none (by omega : t.l.length ≤ i)]
    rw [hat]
    clear h3 h4 hs hu hn h hat
    go_enter Tryz.func48, Tryz.ntmps48
    go_wp2
    exact ret_tree (f := 0) (g := w.heap.size + 1) (cs := [.int .i64 0, .slice none 0 0, .bool false, .slice none 0 0, .slice none 0 0]) rfl rfl (.alloc_new2 _ _ _ _) rfl rfl ⟨_, rfl, RepT.zero _ _, hbel2 _ _⟩
end Go.Proofs.YtmpilpgabelmiaaGreatDoor

/- What the reference writes of a value, a field and a part: by what it writes of the parts below. -/
namespace Go.Proofs.YtmpilpgabelmiaaGreatDoor
open Go Go.RowKit

theorem spFixed (n : Int) (k : Int) (base : Nat) (w : World) (hb : base ≤ w.heap.size) : Gives Tryz.prog 16 #[.int .i64 n, .int .i64 ((pWidth k : Nat) : Int)] w base (fixed n (pWidth k)) := by
  have h : pWidth k = 1 ∨ pWidth k = 2 ∨ pWidth k = 4 ∨ pWidth k = 8 := by
    unfold pWidth
    split
    · simp
    split
    · simp
    split <;> simp
  rcases h with h | h | h | h <;> rw [h]
  · exact spFixed1 n base w hb
  · exact spFixed2 n base w hb
  · exact spFixed4 n base w hb
  · exact spFixed8 n base w hb

set_option maxRecDepth 100000 in
set_option maxHeartbeats 800000 in
theorem spValueNum (k : Int) (h0 : k ≠ 0) (h7 : k ≠ 7) (h8 : k ≠ 8) (h9 : k ≠ 9) (h10 : k ≠ 10) (fv : Value) (null : Bool) (ver : Int) (flex : Bool) (n : Int) (sv lv uv : Value) (nb : Bool) (base : Nat) (w : World) (hb : base ≤ w.heap.size) :
    Gives Tryz.prog 83 #[.int .i64 k, fv, .bool null, .int .i64 ver, .bool flex, .agg #[.int .i64 n, sv, .bool nb, lv, uv]] w base (fixed n (pWidth k)) := by
  have hbel := (Below.refl base w).alloc hb
  go_enter Tryz.func83, Tryz.ntmps83
  go_wp2
  refine wp_region_still_tail 4 (by kernel_rfl) (by kernel_rfl) ?_
  simp only [List.take_succ_cons, List.take_zero, List.drop_succ_cons, List.drop_zero]
  have hbel2 := (hbel (Obj.cells #[.int .i64 n, sv, .bool nb, lv, uv] 26)).drew
  have hcell := ((Blk.alloc_new w [.int .i64 n, sv, .bool nb, lv, uv] 26).drew).cell_some (i := 0) rfl
  change wpStill _ _ (World.drew (w.alloc (Obj.cells #[.int .i64 n, sv, .bool nb, lv, uv] 26))) (fun a' => wpList _ _ _ _ a' (World.drew (w.alloc (Obj.cells #[.int .i64 n, sv, .bool nb, lv, uv] 26)))) _ _
  change (World.drew (w.alloc (Obj.cells #[.int .i64 n, sv, .bool nb, lv, uv] 26))).cell? _ = _ at hcell
  generalize World.drew (w.alloc (Obj.cells #[.int .i64 n, sv, .bool nb, lv, uv] 26)) = w2 at *
  repeat still_step
  still_call (spWidth k _)
  refine wpStill_nil ?_
  go_wp2_with fail
  refine (spFixed n k base w2 (Nat.le_trans hb hbel2.size)).mono ?_
  rintro e w' ⟨v', rfl, hown, hb2⟩
  go_wp2
  go_ret
  exact .mk hown (hbel2.trans hb2)

theorem and1_64 (n : Int) : bits BinOp.and IntKind.i64 n 1 % 256 = n % 2 := by
  have e2 : bits BinOp.and IntKind.i64 n 1 = IntKind.i64.wrap (((BitVec.ofInt 64 n &&& BitVec.ofInt 64 1).toNat : Nat) : Int) := by
    unfold bits
    rfl
  have e : (BitVec.ofInt 64 n &&& BitVec.ofInt 64 1).toNat = (n % 2).toNat := by
    have h := Nat.and_one_is_mod (n % 18446744073709551616).toNat
    rw [BitVec.toNat_and, BitVec.toNat_ofInt, BitVec.toNat_ofInt]
    simp
    omega
  rw [e2, e, IntKind.wrap_i64]
  omega

set_option maxRecDepth 100000 in
set_option maxHeartbeats 800000 in
theorem spValueBool (fv : Value) (null : Bool) (ver : Int) (flex : Bool) (n : Int) (sv lv uv : Value) (nb : Bool) (base : Nat) (w : World) (hb : base ≤ w.heap.size) :
    Gives Tryz.prog 83 #[.int .i64 0, fv, .bool null, .int .i64 ver, .bool flex, .agg #[.int .i64 n, sv, .bool nb, lv, uv]] w base [bb (n % 2)] := by
  have hbel := (Below.refl base w).alloc hb
  go_enter Tryz.func83, Tryz.ntmps83
  go_wp2
  go_ret
  have h := Own.fresh base (w.alloc (.cells #[.int .i64 n, sv, .bool nb, lv, uv] 26)) (Nat.le_trans hb (by simp)) [bb (n % 2)] (by simp)
  simp only [List.map_cons, List.map_nil, byteV_bb] at h
  rw [show n % 2 % 256 = bits BinOp.and IntKind.i64 n 1 % 256 by rw [and1_64]; omega] at h
  rw [show (w.alloc (.cells #[.int .i64 n, sv, .bool nb, lv, uv] 26)).heap.size = w.heap.size + 1 by simp] at h
  exact .mk h ((hbel _).alloc (Nat.le_trans hb (by simp)) _)

theorem halt_copy {P : Program} {w : World} {ops : Array Oper} {rest : List Oper} {a : Act} {Q : Exit → Act → World → Prop} {d x y : Nat} {t : Array TypeId} {ty : TypeId} {pos : String} {af : Array Edge}
    (h : Halted (wpList P ops Q (⟨some d, .call { callee := .builtin .copy, args := #[.tmp x, .tmp y], argTypes := t }, ty, pos, af, none⟩ :: rest) a w)) : wpList P ops Q (⟨some d, .call { callee := .builtin .copy, args := #[.tmp x, .tmp y], argTypes := t }, ty, pos, af, none⟩ :: rest) a w := h
theorem RL.nil (B : Nat) (w : World) : RL B w (.slice none 0 0) [] := ⟨none, 0, rfl, Nat.le_refl _, by omega, fun h => absurd rfl h⟩
theorem RL.mono {B B' : Nat} {w : World} {v : Value} {bs : List UInt8} (h : RL B w v bs) (hB : B ≤ B') : RL B' w v bs := by
  obtain ⟨a, cap, hv, h1, h2, h3⟩ := h
  refine ⟨a, cap, hv, h1, h2, fun hne => ?_⟩
  obtain ⟨b, o, ha, hb, hc⟩ := h3 hne
  exact ⟨b, o, ha, by omega, hc⟩
theorem fixed_length (n : Int) (k : Nat) : (fixed n k).length ≤ 8 := by
  unfold fixed
  split
  · simp
  split
  · simp [be16]
  split <;> simp [be32, be64]
theorem counted_length (flex null : Bool) (n k : Nat) : (counted flex null n k).length ≤ 100 := by
  unfold counted
  have h1 := fixed_length (-1) k
  have h2 := fixed_length n k
  have h3 := uv_length (n + 1)
  cases flex <;> cases null <;> simp <;> omega
/-- 16 octets, all 0. -/
def zz16 : List Value := List.replicate 16 (.int .u8 0)
theorem makes16 (w : World) : (Instr.makeSlice 22 (.int .i64 16) (.int .i64 16)).run Tryz.prog w = .ok (.slice (some ⟨w.heap.size, 0, none⟩) 16 16) (w.alloc (.cells zz16.toArray 5)) := by kernel_rfl
theorem uuid16_cells (s : List UInt8) : splice zz16 0 ((s.take 16).map byteV) = (uuid16 s).map byteV := by
  unfold splice uuid16 zz16
  simp only [List.take_zero, List.nil_append, Nat.zero_add, List.length_map, List.length_take]
  by_cases h : s.length ≤ 16
  · rw [List.take_of_length_le h, List.take_append, List.take_of_length_le h, List.map_append, List.take_replicate, List.map_replicate, List.drop_replicate]
    congr 3
    omega
  · rw [List.take_append_of_le_length (by omega), List.drop_of_length_le (by simp; omega), List.append_nil]
theorem uuid16_length (s : List UInt8) : (uuid16 s).length = 16 := by simp [uuid16]
set_option maxRecDepth 100000 in
set_option maxHeartbeats 800000 in
theorem spValueUuid (fv : Value) (null : Bool) (ver : Int) (flex : Bool) (n : Int) (s : List UInt8) (sv lv uv : Value) (nb : Bool) (base B : Nat) (w : World) (hB : B ≤ base) (hb : base ≤ w.heap.size) (hs : RL B w sv s) :
    Gives Tryz.prog 83 #[.int .i64 7, fv, .bool null, .int .i64 ver, .bool flex, .agg #[.int .i64 n, sv, .bool nb, lv, uv]] w base (uuid16 s) := by
  obtain ⟨a, cap, rfl, h1, h2, h3⟩ := hs
  have H := Lib.hid h3
  clear h3
  have hm := makes16
  go_enter Tryz.func83, Tryz.ntmps83
  go_wp2_with (with_reducible refine halt_copy ?_)
  have hb1 := fun o => (Below.refl base w).alloc hb o
  have hb2 := fun o o' => (hb1 o).alloc (Nat.le_trans hb (by simp)) o'
  have hlen : ((s.take 16).map byteV).length = Nat.min s.length 16 := by rw [List.length_map, List.length_take]; exact Nat.min_comm _ _
  refine wpList_copy_splice rfl (.tmp 27) (.tmp 29) 22 22 rfl 5 Tryz.underlying22 (by kernel_rfl) (some ⟨w.heap.size + 1, 0, none⟩) a 16 16 s.length cap rfl rfl (w.heap.size + 1) 0 zz16 5 (Blk.alloc_new2 w _ zz16 _) ((s.take 16).map byteV) hlen
    (fun hp => ⟨rfl, ?_⟩) (by simp [zz16]; omega) (by intro v hv; obtain ⟨_, _, rfl⟩ := List.mem_map.1 hv; rfl) base w (hb2 _ _) (by omega) ?_
  · have hne : s ≠ [] := by
      intro e
      subst e
      simp at hp
    obtain ⟨b, o, ha, hbB, hc⟩ := H.out hne
    refine ⟨_, ha, fun j v hj => ?_⟩
    rw [Addr.add_lit]
    simp only [List.getElem?_map, List.getElem?_take] at hj
    split at hj
    · cases hu : s[j]? with
      | none => simp [hu] at hj
      | some u =>
        rw [hu] at hj
        cases hj
        exact ((hb2 _ _).cell (p := ⟨b, _, none⟩) (by show b < base; omega)).trans (hc j u hu)
    · simp at hj
  intro w3 hw3 hbel3
  have hw3 := hw3.out
  rw [uuid16_cells] at hw3
  have W3 := Lib.hid hw3
  clear hw3 H
  go_wp2
  go_ret
  refine .mk (v' := .slice (some ⟨w.heap.size + 1, 0, none⟩) 16 16) ⟨?_, .inr ⟨w.heap.size + 1, 16, _, ?_, by omega, W3.out, ?_, by simp [maxLen], ?_, ?_⟩⟩ hbel3
  · rw [Nat.mul_one]; simp
  · rw [uuid16_length]
  · rw [uuid16_length]; omega
  · simp [uuid16_length]
  · show List.take ((uuid16 s).length * 1) _ = _
    rw [Nat.mul_one]
    exact List.take_of_length_le (by simp)

set_option maxRecDepth 100000 in
set_option maxHeartbeats 800000 in
theorem spValueText_true (fv : Value) (ver : Int) (flex : Bool) (n : Int) (s : List UInt8) (sv lv uv : Value) (nb : Bool) (base B : Nat) (w : World) (hB : B ≤ base) (hb : base ≤ w.heap.size) (hs : RL B w sv s) :
    Gives Tryz.prog 83 #[.int .i64 8, fv, .bool true, .int .i64 ver, .bool flex, .agg #[.int .i64 n, sv, .bool nb, lv, uv]] w base (counted flex true (([] : List UInt8)).length 2 ++ ([] : List UInt8)) := by
  have hbel := (Below.refl base w).alloc hb (.cells #[.int .i64 n, sv, .bool nb, lv, uv] 26)
  have hw : (whole s).length ≤ 32767 := by unfold whole; rw [List.length_take]; omega
  have hc1 : (counted flex true (([] : List UInt8)).length 2).length ≤ 100 := counted_length _ _ _ _
  go_enter Tryz.func83, Tryz.ntmps83
  go_wp2_with fail
  refine (spWhole s sv B _ (hs.below (hbel.mono hB))).mono ?_
  rintro e w' ⟨v1, rfl, hv1, rfl⟩
  obtain ⟨a1, cap1, hv1e, hv1r⟩ := id hv1
  subst hv1e
  go_wp2_with fail
  refine (spCounted flex true (([] : List UInt8)).length 2 (by first | omega | simp) (by simp) base _ (Nat.le_trans hb hbel.size)).mono ?_
  rintro e w' ⟨v2, rfl, hown, hb2⟩
  have hown : Own base w' v2 (counted flex true (([] : List UInt8)).length 2) := hown
  go_wp2_with (at_builtin; refine halted ?_)
  refine wpl_append_from bt rfl _ _ rfl base _ hown (Nat.le_trans hb ((hbel.trans hb2).size)) (([] : List UInt8)) (Src.ofRL (B := base) Tryz.underlying22 (RL.nil _ _)) (by unfold lim; first | omega | (simp only [List.length_nil] at *; omega)) ?_
  intro v3 w3 hown3 hbel3
  go_wp2
  go_ret
  exact .mk hown3 ((hbel.trans hb2).trans hbel3)
set_option maxRecDepth 100000 in
set_option maxHeartbeats 800000 in
theorem spValueText_false (fv : Value) (ver : Int) (flex : Bool) (n : Int) (s : List UInt8) (sv lv uv : Value) (nb : Bool) (base B : Nat) (w : World) (hB : B ≤ base) (hb : base ≤ w.heap.size) (hs : RL B w sv s) :
    Gives Tryz.prog 83 #[.int .i64 8, fv, .bool false, .int .i64 ver, .bool flex, .agg #[.int .i64 n, sv, .bool nb, lv, uv]] w base (counted flex false (whole s).length 2 ++ whole s) := by
  have hbel := (Below.refl base w).alloc hb (.cells #[.int .i64 n, sv, .bool nb, lv, uv] 26)
  have hw : (whole s).length ≤ 32767 := by unfold whole; rw [List.length_take]; omega
  have hc1 : (counted flex false (whole s).length 2).length ≤ 100 := counted_length _ _ _ _
  go_enter Tryz.func83, Tryz.ntmps83
  go_wp2_with fail
  refine (spWhole s sv B _ (hs.below (hbel.mono hB))).mono ?_
  rintro e w' ⟨v1, rfl, hv1, rfl⟩
  obtain ⟨a1, cap1, hv1e, hv1r⟩ := id hv1
  subst hv1e
  go_wp2_with fail
  refine (spCounted flex false (whole s).length 2 (by first | omega | simp) (by simp) base _ (Nat.le_trans hb hbel.size)).mono ?_
  rintro e w' ⟨v2, rfl, hown, hb2⟩
  have hown : Own base w' v2 (counted flex false (whole s).length 2) := hown
  go_wp2_with (at_builtin; refine halted ?_)
  refine wpl_append_from bt rfl _ _ rfl base _ hown (Nat.le_trans hb ((hbel.trans hb2).size)) (whole s) (Src.ofRL (B := base) Tryz.underlying22 ((hv1.mono hB).below hb2)) (by unfold lim; first | omega | (simp only [List.length_nil] at *; omega)) ?_
  intro v3 w3 hown3 hbel3
  go_wp2
  go_ret
  exact .mk hown3 ((hbel.trans hb2).trans hbel3)
set_option maxRecDepth 100000 in
set_option maxHeartbeats 800000 in
theorem spValueBytes_true (fv : Value) (ver : Int) (flex : Bool) (n : Int) (s : List UInt8) (sv lv uv : Value) (nb : Bool) (base B : Nat) (w : World) (hB : B ≤ base) (hb : base ≤ w.heap.size) (hs : RL B w sv s) :
    Gives Tryz.prog 83 #[.int .i64 9, fv, .bool true, .int .i64 ver, .bool flex, .agg #[.int .i64 n, sv, .bool nb, lv, uv]] w base (counted flex true (([] : List UInt8)).length 4 ++ ([] : List UInt8)) := by
  have hbel := (Below.refl base w).alloc hb (.cells #[.int .i64 n, sv, .bool nb, lv, uv] 26)
  have hw : (whole s).length ≤ 32767 := by unfold whole; rw [List.length_take]; omega
  have hc1 : (counted flex true (([] : List UInt8)).length 4).length ≤ 100 := counted_length _ _ _ _
  go_enter Tryz.func83, Tryz.ntmps83
  go_wp2_with fail
  refine (spWhole s sv B _ (hs.below (hbel.mono hB))).mono ?_
  rintro e w' ⟨v1, rfl, hv1, rfl⟩
  obtain ⟨a1, cap1, hv1e, hv1r⟩ := id hv1
  subst hv1e
  go_wp2_with fail
  refine (spCounted flex true (([] : List UInt8)).length 4 (by first | omega | simp) (by simp) base _ (Nat.le_trans hb hbel.size)).mono ?_
  rintro e w' ⟨v2, rfl, hown, hb2⟩
  have hown : Own base w' v2 (counted flex true (([] : List UInt8)).length 4) := hown
  go_wp2_with (at_builtin; refine halted ?_)
  refine wpl_append_from bt rfl _ _ rfl base _ hown (Nat.le_trans hb ((hbel.trans hb2).size)) (([] : List UInt8)) (Src.ofRL (B := base) Tryz.underlying22 (RL.nil _ _)) (by unfold lim; first | omega | (simp only [List.length_nil] at *; omega)) ?_
  intro v3 w3 hown3 hbel3
  go_wp2
  go_ret
  exact .mk hown3 ((hbel.trans hb2).trans hbel3)
set_option maxRecDepth 100000 in
set_option maxHeartbeats 800000 in
theorem spValueBytes_false (fv : Value) (ver : Int) (flex : Bool) (n : Int) (s : List UInt8) (sv lv uv : Value) (nb : Bool) (base B : Nat) (w : World) (hB : B ≤ base) (hb : base ≤ w.heap.size) (hs : RL B w sv s) :
    Gives Tryz.prog 83 #[.int .i64 9, fv, .bool false, .int .i64 ver, .bool flex, .agg #[.int .i64 n, sv, .bool nb, lv, uv]] w base (counted flex false (whole s).length 4 ++ whole s) := by
  have hbel := (Below.refl base w).alloc hb (.cells #[.int .i64 n, sv, .bool nb, lv, uv] 26)
  have hw : (whole s).length ≤ 32767 := by unfold whole; rw [List.length_take]; omega
  have hc1 : (counted flex false (whole s).length 4).length ≤ 100 := counted_length _ _ _ _
  go_enter Tryz.func83, Tryz.ntmps83
  go_wp2_with fail
  refine (spWhole s sv B _ (hs.below (hbel.mono hB))).mono ?_
  rintro e w' ⟨v1, rfl, hv1, rfl⟩
  obtain ⟨a1, cap1, hv1e, hv1r⟩ := id hv1
  subst hv1e
  go_wp2_with fail
  refine (spCounted flex false (whole s).length 4 (by first | omega | simp) (by simp) base _ (Nat.le_trans hb hbel.size)).mono ?_
  rintro e w' ⟨v2, rfl, hown, hb2⟩
  have hown : Own base w' v2 (counted flex false (whole s).length 4) := hown
  go_wp2_with (at_builtin; refine halted ?_)
  refine wpl_append_from bt rfl _ _ rfl base _ hown (Nat.le_trans hb ((hbel.trans hb2).size)) (whole s) (Src.ofRL (B := base) Tryz.underlying22 ((hv1.mono hB).below hb2)) (by unfold lim; first | omega | (simp only [List.length_nil] at *; omega)) ?_
  intro v3 w3 hown3 hbel3
  go_wp2
  go_ret
  exact .mk hown3 ((hbel.trans hb2).trans hbel3)
end Go.Proofs.YtmpilpgabelmiaaGreatDoor

/- What the reference writes of a field, by what it writes of its values. -/
namespace Go.Proofs.YtmpilpgabelmiaaGreatDoor
open Go Go.RowKit

/-- What is asked of the part behind fields: it writes what pPart says. -/
def PartC (fs : PFs) (ver : Int) (flex : Bool) (t : Tree) : Prop :=
  ∀ (B base : Nat) (w : World) (fv : Value) (c : List Value), B ≤ base → base ≤ w.heap.size → RepF B w fs fv → RepT B w c t → (pPart ver flex fs t).length ≤ lim →
    Gives Tryz.prog 23 #[fv, .int .i64 ver, .bool flex, .agg c.toArray] w base (pPart ver flex fs t)
/-- The same of a value of a kind. -/
def ValC (k : Int) (sub : PFs) (null : Bool) (ver : Int) (flex : Bool) (t : Tree) : Prop :=
  ∀ (B base : Nat) (w : World) (fv : Value) (c : List Value), B ≤ base → base ≤ w.heap.size → RepF B w sub fv → RepT B w c t → (pVal flex k (pPart ver flex sub) null t).length ≤ lim →
    Gives Tryz.prog 83 #[.int .i64 k, fv, .bool null, .int .i64 ver, .bool flex, .agg c.toArray] w base (pVal flex k (pPart ver flex sub) null t)

set_option maxRecDepth 100000 in
set_option maxHeartbeats 800000 in
theorem spValueStruct (sub : PFs) (null : Bool) (ver : Int) (flex : Bool) (t : Tree) (hp : PartC sub ver flex t) : ValC 10 sub null ver flex t := by
  intro B base w fv c hB hb hf ht hl
  obtain ⟨sv, lv, uv, rfl, -, ⟨sa, sc, rfl, -⟩, ⟨la, lc, lf, rfl, -⟩, ⟨ua, uc, rfl, -⟩⟩ := ht.parts
  have hp1 := Lib.hid hp
  have hbel := (Below.refl base w).alloc hb (.cells #[.int .i64 t.n, .slice sa t.s.length sc, .bool t.null, .slice la t.l.length lc, .slice ua t.u.length uc] 26)
  have H := Lib.hid (And.intro hf ht)
  clear hp hf ht
  show Gives _ _ _ _ _ (pPart ver flex sub t)
  change (pPart ver flex sub t).length ≤ lim at hl
  go_enter Tryz.func83, Tryz.ntmps83
  go_wp2_with fail
  refine (hp1.out B base _ _ _ hB (Nat.le_trans hb hbel.size) (H.out.1.below (hbel.mono hB)) (H.out.2.keep (hbel.mono hB)) hl).mono ?_
  rintro e w' ⟨v', rfl, hown, hb2⟩
  go_wp2
  go_ret
  exact .mk hown (hbel.trans hb2)

theorem spValue (k : Int) (sub : PFs) (null : Bool) (ver : Int) (flex : Bool) (t : Tree) (hp : k = 10 → PartC sub ver flex t) : ValC k sub null ver flex t := by
  by_cases h10 : k = 10
  · subst h10
    exact spValueStruct sub null ver flex t (hp rfl)
  intro B base w fv c hB hb hf ht hl
  obtain ⟨sv, lv, uv, rfl, -, hs, -⟩ := ht.parts
  by_cases h0 : k = 0
  · subst h0
    exact spValueBool fv null ver flex t.n sv lv uv t.null base w hb
  by_cases h7 : k = 7
  · subst h7
    exact spValueUuid fv null ver flex t.n t.s sv lv uv t.null base B w hB hb hs
  by_cases h8 : k = 8
  · subst h8
    cases null
    · exact spValueText_false fv ver flex t.n t.s sv lv uv t.null base B w hB hb hs
    · exact spValueText_true fv ver flex t.n t.s sv lv uv t.null base B w hB hb hs
  by_cases h9 : k = 9
  · subst h9
    cases null
    · exact spValueBytes_false fv ver flex t.n t.s sv lv uv t.null base B w hB hb hs
    · exact spValueBytes_true fv ver flex t.n t.s sv lv uv t.null base B w hB hb hs
  have e : pVal flex k (pPart ver flex sub) null t = fixed t.n (pWidth k) := by simp [pVal, h0, h7, h8, h9, h10]
  rw [e]
  exact spValueNum k h0 h7 h8 h9 h10 fv null ver flex t.n sv lv uv t.null base w hb

theorem spNullT (k fr to nu tg df ok : Int) (sv : Value) (ver : Int) (t : Tree) (c : List Value) (B base : Nat) (w : World) (hb : base ≤ w.heap.size) (ht : RepT B w c t) :
    Says Tryz.prog 80 #[.agg #[.int .i64 k, .int .i64 fr, .int .i64 to, .int .i64 nu, .int .i64 tg, .int .i64 df, .int .i64 ok, sv], .int .i64 ver, .agg c.toArray] w base (.bool (pNull nu ver t)) := by
  obtain ⟨s, l, u, rfl, -⟩ := ht.parts
  exact spNull k fr to nu tg df ok sv ver t.n s t.null l u base w hb

/-- The k-th of the trees behind a slice. -/
theorem RepL.nth {B : Nat} {w : World} {l : List Tree} {a : Option Addr} {n cap : Nat} (h : RepL B w l (.slice a n cap)) {k : Nat} (hk : k < l.length) :
    ∃ p q sa sc la lc ua uc, a = some ⟨p, q, none⟩ ∧ p < B ∧
      RepT B w [.int .i64 (l[k]).n, .slice sa (l[k]).s.length sc, .bool (l[k]).null, .slice la (l[k]).l.length lc, .slice ua (l[k]).u.length uc] (l[k]) ∧
      w.cell? ⟨p, q + k * 5, none⟩ = some (.int .i64 (l[k]).n) ∧ w.cell? ⟨p, q + k * 5 + 1, none⟩ = some (.slice sa (l[k]).s.length sc) ∧ w.cell? ⟨p, q + k * 5 + 2, none⟩ = some (.bool (l[k]).null) ∧
      w.cell? ⟨p, q + k * 5 + 3, none⟩ = some (.slice la (l[k]).l.length lc) ∧ w.cell? ⟨p, q + k * 5 + 4, none⟩ = some (.slice ua (l[k]).u.length uc) := by
  obtain ⟨a', cap', f, hv, h1, h2, h3, h4⟩ := h
  cases hv
  obtain ⟨p, q, rfl, hp, h5⟩ := h3 (by intro e; subst e; simp at hk)
  have hr := h4 k _ (List.getElem?_eq_getElem hk)
  obtain ⟨sv, lv, uv, hc, -, ⟨sa, sc, rfl, -⟩, ⟨la, lc, lf, rfl, -⟩, ⟨ua, uc, rfl, -⟩⟩ := hr.parts
  have h6 := (h5 k hk).2
  rw [hc] at h6 hr
  rw [Nat.mul_comm 5 k] at h6
  exact ⟨p, q, sa, sc, la, lc, ua, uc, rfl, hp, hr, h6 0 _ rfl, h6 1 _ rfl, h6 2 _ rfl, h6 3 _ rfl, h6 4 _ rfl⟩
theorem RepL.nil (B : Nat) (w : World) : RepL B w [] (.slice none 0 0) := ⟨none, 0, fun _ => [], rfl, Nat.le_refl _, by omega, fun h => absurd rfl h, fun i t h => by simp at h⟩
theorem RepL.len {B : Nat} {w : World} {l : List Tree} {a : Option Addr} {n cap : Nat} (h : RepL B w l (.slice a n cap)) : n = l.length := by
  obtain ⟨a', cap', f, hv, -⟩ := h
  cases hv
  rfl
end Go.Proofs.YtmpilpgabelmiaaGreatDoor

/- What the reference writes of a field, by what it writes of its values: the walks. -/
namespace Go.Proofs.YtmpilpgabelmiaaGreatDoor
open Go Go.RowKit

/-- The function writes of this field what pField says. -/
def FieldC (k fr to nu tg df ok : Int) (sub : PFs) (ver : Int) (flex : Bool) (t : Tree) : Prop :=
  ∀ (B base : Nat) (w : World) (fv : Value) (c : List Value), B ≤ base → base ≤ w.heap.size → RepF B w sub fv → RepT B w c t → (pField ver flex k nu ok (pPart ver flex sub) t).length ≤ lim →
    Gives Tryz.prog 47 #[.agg #[.int .i64 k, .int .i64 fr, .int .i64 to, .int .i64 nu, .int .i64 tg, .int .i64 df, .int .i64 ok, fv], .int .i64 ver, .bool flex, .agg c.toArray] w base (pField ver flex k nu ok (pPart ver flex sub) t)

theorem boxF {w : World} {b T : Nat} {c0 c1 c2 c3 c4 c5 c6 c7 : Value} (h : Blk w b [c0, c1, c2, c3, c4, c5, c6, c7] T) :
    w.cell? ⟨b, 0, none⟩ = some c0 ∧ w.cell? ⟨b, 1, none⟩ = some c1 ∧ w.cell? ⟨b, 2, none⟩ = some c2 ∧ w.cell? ⟨b, 3, none⟩ = some c3 ∧
    w.cell? ⟨b, 4, none⟩ = some c4 ∧ w.cell? ⟨b, 5, none⟩ = some c5 ∧ w.cell? ⟨b, 6, none⟩ = some c6 ∧ w.cell? ⟨b, 7, none⟩ = some c7 :=
  ⟨h.cell_some rfl, h.cell_some rfl, h.cell_some rfl, h.cell_some rfl, h.cell_some rfl, h.cell_some rfl, h.cell_some rfl, h.cell_some rfl⟩
theorem boxT {w : World} {b T : Nat} {c0 c1 c2 c3 c4 : Value} (h : Blk w b [c0, c1, c2, c3, c4] T) :
    w.cell? ⟨b, 0, none⟩ = some c0 ∧ w.cell? ⟨b, 1, none⟩ = some c1 ∧ w.cell? ⟨b, 2, none⟩ = some c2 ∧ w.cell? ⟨b, 3, none⟩ = some c3 ∧ w.cell? ⟨b, 4, none⟩ = some c4 :=
  ⟨h.cell_some rfl, h.cell_some rfl, h.cell_some rfl, h.cell_some rfl, h.cell_some rfl⟩

set_option maxRecDepth 100000 in
set_option maxHeartbeats 1600000 in
theorem spFieldVal (k fr to nu tg df ok : Int) (sub : PFs) (ver : Int) (flex : Bool) (t : Tree) (hk : k ≠ 11) (hn : ¬(k = 10 ∧ 0 ≤ nu)) (hv : ValC k sub (pNull nu ver t) ver flex t) : FieldC k fr to nu tg df ok sub ver flex t := by
  intro B base w fv c hB hb hf ht hl
  have e : pField ver flex k nu ok (pPart ver flex sub) t = pVal flex k (pPart ver flex sub) (pNull nu ver t) t := by simp only [pField, hk, hn, if_false]
  rw [e] at hl ⊢
  clear e
  have NL := fun w' (hw : B ≤ w'.heap.size) (hr : RepT B w' c t) => spNullT k fr to nu tg df ok fv ver t c B w'.heap.size w' (Nat.le_refl _) hr
  obtain ⟨sv, lv, uv, rfl, -, ⟨sa, sc, rfl, -⟩, ⟨la, lc, lf, rfl, -⟩, ⟨ua, uc, rfl, -⟩⟩ := ht.parts
  obtain ⟨fa, fcap, rfl, -⟩ := id hf
  have V := Lib.hid hv
  have N := Lib.hid NL
  clear hv NL
  have hb1 := fun o => (Below.refl base w).alloc hb o
  have hb2 := fun o o' => (hb1 o).alloc (Nat.le_trans hb (by simp)) o'
  have H := Lib.hid (And.intro hf ht)
  clear hf ht
  have e1 : ∀ o o', ((w.alloc o).alloc o').heap.size = w.heap.size + 2 := by intro o o'; simp
  by_cases h10 : k = 10
  · have hnu : ¬ 0 ≤ nu := fun h => hn ⟨h10, h⟩
    subst h10
    clear hn
    go_enter Tryz.func47, Tryz.ntmps47
    go_wp2_with fail
    refine (N.out _ (by rw [e1]; omega) (H.out.2.keep ((hb2 _ _).mono hB))).mono ?_
    rintro e w3 ⟨rfl, hb3⟩
    obtain ⟨x0, x1, x2, x3, x4, x5, x6, x7⟩ := boxF (((Blk.alloc_new w [.int .i64 10, .int .i64 fr, .int .i64 to, .int .i64 nu, .int .i64 tg, .int .i64 df, .int .i64 ok, .slice fa sub.len fcap] 45).alloc
      (.cells #[.int .i64 t.n, .slice sa t.s.length sc, .bool t.null, .slice la t.l.length lc, .slice ua t.u.length uc] 26)).below hb3 (by rw [e1]; omega))
    obtain ⟨y0, y1, y2, y3, y4⟩ := boxT ((Blk.alloc_new2 w (.cells #[.int .i64 10, .int .i64 fr, .int .i64 to, .int .i64 nu, .int .i64 tg, .int .i64 df, .int .i64 ok, .slice fa sub.len fcap] 45)
      [.int .i64 t.n, .slice sa t.s.length sc, .bool t.null, .slice la t.l.length lc, .slice ua t.u.length uc] 26).below hb3 (by rw [e1]; omega))
    have hb4 := (hb2 _ _).trans (hb3.mono (by rw [e1]; omega))
    go_wp2_with fail
    refine (V.out B base w3 _ _ hB (Nat.le_trans hb hb4.size) (H.out.1.below (hb4.mono hB)) (H.out.2.keep (hb4.mono hB)) hl).mono ?_
    rintro e w4 ⟨v', rfl, hown, hb5⟩
    go_wp2
    go_ret
    exact .mk hown (hb4.trans hb5)
  · clear hn
    go_enter Tryz.func47, Tryz.ntmps47
    go_wp2_with fail
    refine (N.out _ (by rw [e1]; omega) (H.out.2.keep ((hb2 _ _).mono hB))).mono ?_
    rintro e w3 ⟨rfl, hb3⟩
    obtain ⟨x0, x1, x2, x3, x4, x5, x6, x7⟩ := boxF (((Blk.alloc_new w [.int .i64 k, .int .i64 fr, .int .i64 to, .int .i64 nu, .int .i64 tg, .int .i64 df, .int .i64 ok, .slice fa sub.len fcap] 45).alloc
      (.cells #[.int .i64 t.n, .slice sa t.s.length sc, .bool t.null, .slice la t.l.length lc, .slice ua t.u.length uc] 26)).below hb3 (by rw [e1]; omega))
    obtain ⟨y0, y1, y2, y3, y4⟩ := boxT ((Blk.alloc_new2 w (.cells #[.int .i64 k, .int .i64 fr, .int .i64 to, .int .i64 nu, .int .i64 tg, .int .i64 df, .int .i64 ok, .slice fa sub.len fcap] 45)
      [.int .i64 t.n, .slice sa t.s.length sc, .bool t.null, .slice la t.l.length lc, .slice ua t.u.length uc] 26).below hb3 (by rw [e1]; omega))
    have hb4 := (hb2 _ _).trans (hb3.mono (by rw [e1]; omega))
    go_wp2_with fail
    refine (V.out B base w3 _ _ hB (Nat.le_trans hb hb4.size) (H.out.1.below (hb4.mono hB)) (H.out.2.keep (hb4.mono hB)) hl).mono ?_
    rintro e w4 ⟨v', rfl, hown, hb5⟩
    go_wp2
    go_ret
    exact .mk hown (hb4.trans hb5)
end Go.Proofs.YtmpilpgabelmiaaGreatDoor

/- What the reference writes of a list: its count, its things. -/
namespace Go.Proofs.YtmpilpgabelmiaaGreatDoor
open Go Go.RowKit

theorem step_append_from {P : Program} {w : World} {ops : Array Oper} {o : Oper} {a : Act} {K : Act → World → Prop} {Q : Exit → Act → World → Prop} {E : Prop} {t tx : TypeId} (T : BytesT P t 5) (hgd : o.guard = none) (s x : Operand)
    (ho : o.op = .call { callee := .builtin .append, args := #[s, x], argTypes := #[t, tx] }) (base : Nat) (bs : List UInt8) (hown : Own base w (a.eval s) bs) (hb : base ≤ w.heap.size)
    (bs' : List UInt8) (hsrc : Src P 1 tx (a.eval x) bs'.length (bs'.map byteV) w) (hl : bs.length + bs'.length ≤ lim)
    (h : ∀ v' w', Own base w' v' (bs ++ bs') → Below base w w' → K (a.put o.dst v') w') : if Region.wanted o (yielded ops a.tmps) = true then Oper.wp P o a w K Q else E := by
  have hw : Region.wanted o (yielded ops a.tmps) = true := by simp [Region.wanted, hgd]
  rw [if_pos hw]
  obtain ⟨i, hi, hz, hs, hby⟩ := T.info
  refine wp_append_src s x t tx ho base 5 i (.int .u8 0) 1 1 T.under hi hz hs hby rfl (a.eval s) bs.length (bs.map byteV) rfl hown _ bs'.length (bs'.map byteV) rfl hsrc (lim_max hl) (lim_room hl) hb ?_
  intro v' w' hown' hg _
  refine h v' w' ?_ ?_
  · unfold Own
    simpa using hown'
  · exact (Below.refl _ _).grown hg hb (fun k hk => by
      have := hown.lt k hk
      omega)
theorem Own.stay {base n : Nat} {w w' : World} {v : Value} {bs : List UInt8} (h : Own base w v bs) (hb : Below n w w') (hn : w.heap.size ≤ n) : Own base w' v bs := by
  refine ⟨h.1, ?_⟩
  rcases h.2 with hz | ⟨g, cap, cur, hv, hbg, hg, rest⟩
  · exact .inl hz
  · have hlt : g < w.heap.size := (Array.getElem?_eq_some_iff.1 hg).1
    exact .inr ⟨g, cap, cur, hv, hbg, (hb.block g (by omega)).trans hg, rest⟩
theorem Own.rl {base : Nat} {w : World} {v : Value} {bs : List UInt8} (h : Own base w v bs) : RL w.heap.size w v bs := (h.rb [] (by simp)).rl
theorem keep7 {n p q b : Nat} {w w' : World} {v0 v1 v2 v3 v4 x6 x7 : Value} (hb : Below n w w') (hp : p < n) (hbb : b < n)
    (h : w.cell? ⟨p, q, none⟩ = some v0 ∧ w.cell? ⟨p, q + 1, none⟩ = some v1 ∧ w.cell? ⟨p, q + 2, none⟩ = some v2 ∧ w.cell? ⟨p, q + 3, none⟩ = some v3 ∧ w.cell? ⟨p, q + 4, none⟩ = some v4 ∧ w.cell? ⟨b, 6, none⟩ = some x6 ∧ w.cell? ⟨b, 7, none⟩ = some x7) :
    w'.cell? ⟨p, q, none⟩ = some v0 ∧ w'.cell? ⟨p, q + 1, none⟩ = some v1 ∧ w'.cell? ⟨p, q + 2, none⟩ = some v2 ∧ w'.cell? ⟨p, q + 3, none⟩ = some v3 ∧ w'.cell? ⟨p, q + 4, none⟩ = some v4 ∧ w'.cell? ⟨b, 6, none⟩ = some x6 ∧ w'.cell? ⟨b, 7, none⟩ = some x7 := by
  have hP : ∀ i, w'.cell? ⟨p, i, none⟩ = w.cell? ⟨p, i, none⟩ := fun i => hb.cell (p := ⟨p, i, none⟩) hp
  have hQ : ∀ i, w'.cell? ⟨b, i, none⟩ = w.cell? ⟨b, i, none⟩ := fun i => hb.cell (p := ⟨b, i, none⟩) hbb
  simp only [hP, hQ]
  exact h

/-- The first k things of a list, each as the kind is written. -/
def things (ok : Int) (sub : PFs) (ver : Int) (flex : Bool) (l : List Tree) (k : Nat) : List UInt8 := (l.take k).flatMap (pVal flex ok (pPart ver flex sub) false)
theorem things_zero (ok : Int) (sub : PFs) (ver : Int) (flex : Bool) (l : List Tree) : things ok sub ver flex l 0 = [] := by simp [things]
theorem things_succ (ok : Int) (sub : PFs) (ver : Int) (flex : Bool) (l : List Tree) (k : Nat) (h : k < l.length) : things ok sub ver flex l (k + 1) = things ok sub ver flex l k ++ pVal flex ok (pPart ver flex sub) false l[k] := by
  unfold things
  rw [List.take_add_one, List.getElem?_eq_getElem h, List.flatMap_append]
  simp only [Option.toList_some, List.flatMap_cons, List.flatMap_nil, List.append_nil]
theorem things_all (ok : Int) (sub : PFs) (ver : Int) (flex : Bool) (l : List Tree) : things ok sub ver flex l l.length = l.flatMap (pVal flex ok (pPart ver flex sub) false) := by simp [things]
theorem things_le (ok : Int) (sub : PFs) (ver : Int) (flex : Bool) (l : List Tree) (k : Nat) (h : k < l.length) :
    (things ok sub ver flex l k).length + (pVal flex ok (pPart ver flex sub) false l[k]).length ≤ (l.flatMap (pVal flex ok (pPart ver flex sub) false)).length := by
  rw [← List.length_append, ← things_succ _ _ _ _ _ _ h]
  unfold things
  conv => rhs; rw [← List.take_append_drop (k + 1) l]
  rw [List.flatMap_append, List.length_append]
  omega

set_option maxRecDepth 100000 in
set_option maxHeartbeats 1600000 in
theorem spFieldList_null (fr to nu tg df ok : Int) (sub : PFs) (ver : Int) (flex : Bool) (t : Tree) (hn : pNull nu ver t = true) : FieldC 11 fr to nu tg df ok sub ver flex t := by
  intro B base w fv c hB hb hf ht hl
  have e : pField ver flex 11 nu ok (pPart ver flex sub) t = counted flex true 0 4 := by simp [pField, hn, pThings]
  rw [e]
  clear e hl
  have NL := fun w' (hw : B ≤ w'.heap.size) (hr : RepT B w' c t) => spNullT 11 fr to nu tg df ok fv ver t c B w'.heap.size w' (Nat.le_refl _) hr
  rw [hn] at NL
  obtain ⟨sv, lv, uv, rfl, -, ⟨sa, sc, rfl, -⟩, ⟨la, lc, lf, rfl, -⟩, ⟨ua, uc, rfl, -⟩⟩ := ht.parts
  obtain ⟨fa, fcap, rfl, -⟩ := id hf
  have N := Lib.hid NL
  clear NL hn
  have hb1 := fun o => (Below.refl base w).alloc hb o
  have hb2 := fun o o' => (hb1 o).alloc (Nat.le_trans hb (by simp)) o'
  have H := Lib.hid (And.intro hf ht)
  clear hf ht
  have e1 : ∀ o o', ((w.alloc o).alloc o').heap.size = w.heap.size + 2 := by intro o o'; simp
  go_enter Tryz.func47, Tryz.ntmps47
  go_wp2_with fail
  refine (N.out _ (by rw [e1]; omega) (H.out.2.keep ((hb2 _ _).mono hB))).mono ?_
  rintro e w3 ⟨rfl, hb3⟩
  obtain ⟨x0, x1, x2, x3, x4, x5, x6, x7⟩ := boxF (((Blk.alloc_new w [.int .i64 11, .int .i64 fr, .int .i64 to, .int .i64 nu, .int .i64 tg, .int .i64 df, .int .i64 ok, .slice fa sub.len fcap] 45).alloc
    (.cells #[.int .i64 t.n, .slice sa t.s.length sc, .bool t.null, .slice la t.l.length lc, .slice ua t.u.length uc] 26)).below hb3 (by rw [e1]; omega))
  obtain ⟨y0, y1, y2, y3, y4⟩ := boxT ((Blk.alloc_new2 w (.cells #[.int .i64 11, .int .i64 fr, .int .i64 to, .int .i64 nu, .int .i64 tg, .int .i64 df, .int .i64 ok, .slice fa sub.len fcap] 45)
    [.int .i64 t.n, .slice sa t.s.length sc, .bool t.null, .slice la t.l.length lc, .slice ua t.u.length uc] 26).below hb3 (by rw [e1]; omega))
  have hb4 := (hb2 _ _).trans (hb3.mono (by rw [e1]; omega))
  have R4 := H.out.2.keep (hb4.mono hB)
  obtain ⟨s4, l4, u4, hcc, -, -, RL4, -⟩ := R4.parts
  cases hcc
  clear R4
  go_wp2_with fail
  refine (spThings t.l _ B _ RL4).mono ?_
  rintro e w4 ⟨v', rfl, -, rfl⟩
  clear RL4
  go_wp2_with fail
  refine (spCounted flex true 0 4 (by omega) (by simp) base _ (Nat.le_trans hb hb4.size)).mono ?_
  rintro e w4 ⟨v2, rfl, hown, hb5⟩
  have hown : Own base w4 v2 (counted flex true 0 4) := hown
  go_wp2_with fail
  refine wp_loop_rounds 1 ?_
  rw [rounds_succ]
  go_wp2
  go_ret
  exact .mk hown (hb4.trans hb5)

set_option maxRecDepth 100000 in
set_option maxHeartbeats 3200000 in
theorem spFieldList_some (fr to nu tg df ok : Int) (sub : PFs) (ver : Int) (flex : Bool) (t : Tree) (hn : pNull nu ver t = false) (hv : ∀ t', t' ∈ t.l → ValC ok sub false ver flex t') : FieldC 11 fr to nu tg df ok sub ver flex t := by
  intro B base w fv c hB hb hf ht hl
  have e : pField ver flex 11 nu ok (pPart ver flex sub) t = counted flex false (t.l.take 32767).length 4 ++ (t.l.take 32767).flatMap (pVal flex ok (pPart ver flex sub) false) := by simp [pField, hn, pThings]
  rw [e] at hl ⊢
  clear e
  have NL := fun w' (hw : B ≤ w'.heap.size) (hr : RepT B w' c t) => spNullT 11 fr to nu tg df ok fv ver t c B w'.heap.size w' (Nat.le_refl _) hr
  rw [hn] at NL
  obtain ⟨sv, lv, uv, rfl, -, ⟨sa, sc, rfl, -⟩, ⟨la, lc, lf, rfl, -⟩, ⟨ua, uc, rfl, -⟩⟩ := ht.parts
  obtain ⟨fa, fcap, rfl, -⟩ := id hf
  have N := Lib.hid NL
  have V := Lib.hid hv
  clear NL hn hv
  have hb1 := fun o => (Below.refl base w).alloc hb o
  have hb2 := fun o o' => (hb1 o).alloc (Nat.le_trans hb (by simp)) o'
  have H := Lib.hid (And.intro hf ht)
  clear hf ht
  have e1 : ∀ o o', ((w.alloc o).alloc o').heap.size = w.heap.size + 2 := by intro o o'; simp
  have hll : (t.l.take 32767).length ≤ 32767 := by rw [List.length_take]; omega
  have hmem : ∀ t', t' ∈ t.l.take 32767 → t' ∈ t.l := fun t' h => List.mem_of_mem_take h
  obtain ⟨L, hLd⟩ : ∃ L, t.l.take 32767 = L := ⟨_, rfl⟩
  rw [hLd] at hl hll hmem ⊢
  go_enter Tryz.func47, Tryz.ntmps47
  go_wp2_with fail
  refine (N.out _ (by rw [e1]; omega) (H.out.2.keep ((hb2 _ _).mono hB))).mono ?_
  rintro e w3 ⟨rfl, hb3⟩
  have X := ((Blk.alloc_new w [.int .i64 11, .int .i64 fr, .int .i64 to, .int .i64 nu, .int .i64 tg, .int .i64 df, .int .i64 ok, .slice fa sub.len fcap] 45).alloc
    (.cells #[.int .i64 t.n, .slice sa t.s.length sc, .bool t.null, .slice la t.l.length lc, .slice ua t.u.length uc] 26)).below hb3 (by rw [e1]; omega)
  obtain ⟨x0, x1, x2, x3, x4, x5, x6, x7⟩ := boxF X
  obtain ⟨y0, y1, y2, y3, y4⟩ := boxT ((Blk.alloc_new2 w (.cells #[.int .i64 11, .int .i64 fr, .int .i64 to, .int .i64 nu, .int .i64 tg, .int .i64 df, .int .i64 ok, .slice fa sub.len fcap] 45)
    [.int .i64 t.n, .slice sa t.s.length sc, .bool t.null, .slice la t.l.length lc, .slice ua t.u.length uc] 26).below hb3 (by rw [e1]; omega))
  have hs3 : w.heap.size + 2 ≤ w3.heap.size := by have := hb3.size; rw [e1] at this; exact this
  have hb4 := (hb2 _ _).trans (hb3.mono (by rw [e1]; omega))
  have R4 := H.out.2.keep (hb4.mono hB)
  have F4 := H.out.1.below (hb4.mono hB)
  obtain ⟨s4, l4, u4, hcc, -, -, RL4, -⟩ := R4.parts
  cases hcc
  clear R4
  have XH := Lib.hid (And.intro X F4)
  clear X F4 H
  go_wp2_with fail
  refine (spThings t.l _ B _ RL4).mono ?_
  rintro e w4 ⟨v', rfl, RL5, rfl⟩
  clear RL4
  obtain ⟨a5, cap5, f5, rfl, -⟩ := id RL5
  rw [hLd] at RL5
  rw [hLd]
  clear hLd
  have hb7 : Below (w.heap.size + 2) w3 w3 := Below.refl _ _
  go_wp2_with fail
  refine (spCounted flex false L.length 4 (by omega) (by simp) (w.heap.size + 2) _ hs3).mono ?_
  rintro e w4 ⟨v2, rfl, hown, hb5⟩
  have hown : Own (w.heap.size + 2) w4 v2 (counted flex false L.length 4) := hown
  have RL6 := Lib.hid RL5
  clear RL5 x0 x1 x2 x3 x4 x5 x6 x7 y0 y1 y2 y3 y4
  go_wp2_with fail
  go_loopw [11, 31] (fun v i wr => ∃ k : Nat, k ≤ L.length ∧ i = .int .i64 k ∧ Own (w.heap.size + 2) wr v (counted flex false L.length 4 ++ things ok sub ver flex L k) ∧ Below (w.heap.size + 2) w3 wr)
    (fun _ i _ => L.length - (intOf i).toNat)
  case atStart => exact ⟨0, Nat.zero_le _, rfl, by rw [things_zero, List.append_nil]; exact hown, hb5⟩
  case round =>
    obtain ⟨k, hk, rfl, hownk, hbk⟩ := hrel
    by_cases hkl : k < L.length
    · obtain ⟨p, q, sa', sc', la', lc', ua', uc', ha, hp, hr, c0, c1, c2, c3, c4⟩ := (RL6.out.keep (hbk.mono (by omega))).nth hkl
      subst ha
      obtain ⟨-, -, -, -, -, -, x6, x7⟩ := boxF (XH.out.1.below hbk (by omega))
      have R := Lib.hid (And.intro hr (XH.out.2.below (hbk.mono (by omega))))
      have hle := things_le ok sub ver flex L k hkl
      rw [List.length_append] at hl
      have hsz := hbk.size
      have D : Below (w.heap.size + 2) wr wr.drew := (Below.refl _ _).drew
      have c := keep7 (D) (by omega) (by omega) ⟨c0, c1, c2, c3, c4, x6, x7⟩
      have hpb : p < w.heap.size + 2 := by omega
      have hbb : w.heap.size < w.heap.size + 2 := by omega
      clear c0 c1 c2 c3 c4 x6 x7 hr
      have hownd := Lib.hid hownk.drew
      have hdsz : wr.drew.heap.size = wr.heap.size := rfl
      have hw2 : w.heap.size + 2 ≤ wr.drew.heap.size := by omega
      go_wp2_with fail
      go_region_held3 (fun w' => w'.cell? ⟨p, q + k * 5, none⟩ = some (.int .i64 (L[k]).n) ∧ w'.cell? ⟨p, q + k * 5 + 1, none⟩ = some (.slice sa' (L[k]).s.length sc') ∧ w'.cell? ⟨p, q + k * 5 + 2, none⟩ = some (.bool (L[k]).null) ∧
        w'.cell? ⟨p, q + k * 5 + 3, none⟩ = some (.slice la' (L[k]).l.length lc') ∧ w'.cell? ⟨p, q + k * 5 + 4, none⟩ = some (.slice ua' (L[k]).u.length uc') ∧ w'.cell? ⟨w.heap.size, 6, none⟩ = some (.int .i64 ok) ∧ w'.cell? ⟨w.heap.size, 7, none⟩ = some (.slice fa sub.len fcap))
        (first | exact c | exact keep7 (by assumption) hpb hbb (by assumption) | exact keep7 (Below.mono (by assumption) hw2) hpb hbb (by assumption))
        (first
          | (go_at_call 83; refine (V.out _ (hmem _ (List.getElem_mem hkl)) B wr.drew.heap.size wr.drew _ _ (by omega) (Nat.le_refl _) (R.out.2.below (D.mono (by omega))) (R.out.1.keep (D.mono (by omega))) (by omega)).mono ?_; rintro e w6 ⟨v6, rfl, hown6, hb6⟩)
          | (refine step_append_from bt rfl (.tmp 34) (.tmp 45) rfl (w.heap.size + 2) _ (hownd.out.stay hb6 (Nat.le_refl _)) (by have := hb6.size; omega) _ (Src.ofRL (B := w6.heap.size) Tryz.underlying22 (hown6.rl)) (by simp only [List.length_append]; omega) ?_; intro v7 w7 hown7 hb7))
      have hfin : Own (w.heap.size + 2) w7 v7 (counted flex false L.length 4 ++ things ok sub ver flex L (k + 1)) := by
        rw [things_succ _ _ _ _ _ _ hkl, ← List.append_assoc]
        exact hown7
      have hbfin : Below (w.heap.size + 2) w3 w7 := (hbk.trans D).trans ((hb6.mono hw2).trans hb7)
      go_wp2
      go_roundw
      case rel => exact ⟨k + 1, by omega, by go_num, hfin, hbfin⟩
      case measure => simp [intOf]; omega
    · have : k = L.length := by omega
      subst this
      rw [things_all] at hownk
      go_wp2
      go_ret
      exact .mk (hownk.mono (by omega)) (hb4.trans (hbk.mono (by omega)))
end Go.Proofs.YtmpilpgabelmiaaGreatDoor

/- The reference's known and unknown tags, where there are none. -/
namespace Go.Proofs.YtmpilpgabelmiaaGreatDoor
open Go Go.RowKit

/-- What the loops over fields know of those that are left: gs, from the k-th on. -/
structure Left (B : Nat) (w : World) (a : Option Addr) (n : Nat) (k : Nat) (gs : PFs) : Prop where
  len : k + gs.len = n
  noTag : gs.noTag
  cells : ∀ p q, a = some ⟨p, q, none⟩ → RepFC B w gs p (q + k * 8)
theorem Left.below {B : Nat} {w w' : World} {a : Option Addr} {n k : Nat} {gs : PFs} (h : Left B w a n k gs) (hk : Below B w w') (hp : ∀ p q, a = some ⟨p, q, none⟩ → p < B) : Left B w' a n k gs :=
  ⟨h.len, h.noTag, fun p q ha => (h.cells p q ha).below hk (hp p q ha)⟩
theorem Left.next {B : Nat} {w : World} {a : Option Addr} {n k : Nat} {kk fr to nu tg df ok : Int} {sub rest : PFs} (h : Left B w a n k (.cons kk fr to nu tg df ok sub rest)) : Left B w a n (k + 1) rest :=
  ⟨by have := h.len; simp only [PFs.len] at this; omega, h.noTag.2.2, fun p q ha => by
    have := (h.cells p q ha).2.2
    rwa [show q + (k + 1) * 8 = q + k * 8 + 8 by omega]⟩
theorem Left.start {B : Nat} {w : World} {fs : PFs} {a : Option Addr} {n cap : Nat} (h : RepF B w fs (.slice a n cap)) (ht : fs.noTag) : n = fs.len ∧ fs.len ≤ 9223372036854775807 ∧ (fs.len ≠ 0 → ∃ p q, a = some ⟨p, q, none⟩ ∧ p < B) ∧ (fs.len ≠ 0 → Left B w a fs.len 0 fs) := by
  obtain ⟨a', cap', hv, hle, hr⟩ := h
  cases hv
  refine ⟨rfl, hle, fun hn => ?_, fun hn => ⟨by omega, ht, fun p q ha => ?_⟩⟩
  · obtain ⟨p, q, ha, hp, -⟩ := hr hn
    exact ⟨p, q, ha, hp⟩
  · obtain ⟨p', q', ha', -, hr⟩ := hr hn
    rw [ha] at ha'
    cases ha'
    rw [Nat.zero_mul, Nat.add_zero]
    exact hr

set_option maxRecDepth 100000 in
set_option maxHeartbeats 1600000 in
theorem spKnown0 (fs : PFs) (ht : fs.noTag) (fv : Value) (B base : Nat) (w : World) (hB : B ≤ base) (hb : base ≤ w.heap.size) (hf : RepF B w fs fv) :
    Says Tryz.prog 49 #[fv] w base (.int .u32 0) := by
  obtain ⟨a, cap, rfl, -⟩ := id hf
  obtain ⟨-, hmax, ha, hL⟩ := Left.start hf ht
  clear hf
  by_cases hn : fs.len = 0
  · rw [hn]
    clear ha hL
    go_enter Tryz.func49, Tryz.ntmps49
    go_wp2_with fail
    refine wp_loop_rounds 1 ?_
    rw [rounds_succ]
    go_wp2
    go_ret
    exact ⟨rfl, Below.refl _ _⟩
  · obtain ⟨p, q, rfl, hp⟩ := ha hn
    have L0 := hL hn
    clear ha hL
    obtain ⟨n, hnn⟩ : ∃ n, fs.len = n := ⟨_, rfl⟩
    rw [hnn] at L0 hmax ⊢
    go_enter Tryz.func49, Tryz.ntmps49
    go_wp2_with fail
    go_loopw [3, 8] (fun v i wr => ∃ k gs, i = .int .i64 (k : Nat) ∧ v = .int .u32 0 ∧ Left B w (some ⟨p, q, none⟩) n k gs ∧ Below base w wr)
      (fun _ i _ => n - (intOf i).toNat)
    case atStart => exact ⟨0, fs, rfl, rfl, L0, Below.refl _ _⟩
    case round =>
      obtain ⟨k, gs, rfl, rfl, L, hbk⟩ := hrel
      have hlen := L.len
      have htag := L.noTag
      have hc := (L.cells p q rfl).below (hbk.mono hB) hp
      cases gs with
      | nil =>
        simp only [PFs.len, Nat.add_zero] at hlen
        subst hlen
        clear L htag hc
        go_wp2
        go_ret
        exact ⟨rfl, hbk⟩
      | cons kk fr to nu tg df ok sub rest =>
        obtain ⟨⟨h1, h2, h3, h4, h5, h6, h7⟩, ⟨v, h8, a8, cap8, rfl, -⟩, hrest⟩ := hc
        obtain ⟨rfl, htags, htagr⟩ := htag
        simp only [PFs.len] at hlen
        have hkn : k < n := by omega
        have hpw : p < wr.heap.size := by have := hbk.size; omega
        have LN := Lib.hid (L.next)
        clear L htags htagr hrest
        go_wp2
        go_roundw
        case rel => exact ⟨k + 1, rest, by go_num, rfl, LN.out, hbk.alloc (Nat.le_trans hb hbk.size) _⟩
        case measure => simp [intOf]; omega

set_option maxRecDepth 100000 in
set_option maxHeartbeats 1600000 in
theorem spUnknown0 (fs : PFs) (ht : fs.noTag) (fv uv : Value) (u : List (Nat × List UInt8)) (hu0 : u = []) (B base : Nat) (w : World) (hB : B ≤ base) (hb : base ≤ w.heap.size) (hf : RepF B w fs fv) (hu : RepU B w u uv) :
    Says Tryz.prog 52 #[fv, uv] w base (.slice none 0 0) := by
  subst hu0
  obtain ⟨a, cap, rfl, -⟩ := hu
  have K := Lib.hid (spKnown0 fs ht fv B base w hB hb hf)
  obtain ⟨fa, fcap, rfl, -⟩ := hf
  go_enter Tryz.func52, Tryz.ntmps52
  go_wp2_with fail
  refine K.out.mono ?_
  rintro e w' ⟨rfl, hbel⟩
  go_wp2_with fail
  refine wp_loop_rounds 1 ?_
  rw [rounds_succ]
  go_wp2
  go_ret
  exact ⟨rfl, hbel⟩
end Go.Proofs.YtmpilpgabelmiaaGreatDoor

/- Laying a tag into a list of tags by rising numbers, step by step: where it goes, what is moved. No program in sight. -/
namespace Go.Proofs.YtmpilpgabelmiaaGreatDoor

/-- Where a tag is laid: behind all of lower numbers. -/
def posU {α : Type} (k : Nat) : List (Nat × α) → Nat
  | [] => 0
  | (j, _) :: r => if j < k then posU k r + 1 else 0
theorem posU_le {α : Type} (k : Nat) : ∀ l : List (Nat × α), posU k l ≤ l.length
  | [] => Nat.le_refl _
  | (j, _) :: r => by
    have := posU_le k r
    simp only [posU, List.length_cons]
    split <;> omega
theorem posU_lt {α : Type} (k : Nat) : ∀ (l : List (Nat × α)) (i : Nat) (t : Nat × α), i < posU k l → l[i]? = some t → t.1 < k
  | [], i, t, h, _ => by simp [posU] at h
  | (j, x) :: r, i, t, h, ht => by
    simp only [posU] at h
    split at h
    · rename_i hj
      cases i with
      | zero => simp at ht; subst ht; exact hj
      | succ i => exact posU_lt k r i t (by omega) (by simpa using ht)
    · omega
theorem posU_at {α : Type} (k : Nat) : ∀ (l : List (Nat × α)) (t : Nat × α), l[posU k l]? = some t → k ≤ t.1
  | [], t, h => by simp at h
  | (j, x) :: r, t, h => by
    simp only [posU] at h
    split at h
    · exact posU_at k r t (by simpa using h)
    · simp at h; subst h; simp only; omega
/-- A place ahead of which all numbers are lower, and which holds none that is lower, is the tag's. -/
theorem posU_eq {α : Type} (k : Nat) (l : List (Nat × α)) (i : Nat) (h1 : i ≤ posU k l) (h2 : ∀ t, l[i]? = some t → k ≤ t.1) : i = posU k l := by
  rcases Nat.lt_or_ge i (posU k l) with h | h
  · have hl := posU_le k l
    have hi : l[i]? = some (l[i]'(by omega)) := List.getElem?_eq_getElem _
    have := posU_lt k l i _ h hi
    have := h2 _ hi
    omega
  · omega
theorem posU_next {α : Type} (k : Nat) (l : List (Nat × α)) (i : Nat) (t : Nat × α) (h1 : i ≤ posU k l) (h2 : l[i]? = some t) (h3 : t.1 < k) : i + 1 ≤ posU k l := by
  rcases Nat.lt_or_ge i (posU k l) with h | h
  · exact h
  · have e : i = posU k l := by omega
    subst e
    have := posU_at k l t h2
    omega
/-- A tag laid in at its place, unless one of its number stands there. -/
def insG {α : Type} (k : Nat) (v : α) (l : List (Nat × α)) : List (Nat × α) :=
  match l[posU k l]? with
  | some t => if t.1 = k then l else l.take (posU k l) ++ (k, v) :: l.drop (posU k l)
  | none => l.take (posU k l) ++ (k, v) :: l.drop (posU k l)
theorem insG_there {α : Type} {k : Nat} {v : α} {l : List (Nat × α)} {t : Nat × α} (h : l[posU k l]? = some t) (hk : t.1 = k) : insG k v l = l := by simp only [insG, h, if_pos hk]
theorem insG_new {α : Type} {k : Nat} {v : α} {l : List (Nat × α)} (h : ∀ t, l[posU k l]? = some t → t.1 ≠ k) : insG k v l = l.take (posU k l) ++ (k, v) :: l.drop (posU k l) := by
  unfold insG
  split
  · rename_i t ht
    rw [if_neg (h t ht)]
  · rfl
theorem insU_insG (k : Nat) (v : List UInt8) : ∀ l : List (Nat × List UInt8), insU k v l = insG k v l
  | [] => rfl
  | (j, u) :: r => by
    have ih := insU_insG k v r
    simp only [insU, insG, posU]
    by_cases h1 : j < k
    · simp only [if_pos h1, List.getElem?_cons_succ, List.take_succ_cons, List.drop_succ_cons, List.cons_append]
      rw [ih]
      unfold insG
      split
      · rename_i t ht
        split <;> rfl
      · rfl
    · simp only [if_neg h1, List.getElem?_cons_zero, List.take_zero, List.drop_zero, List.nil_append]
theorem posU_map {α β : Type} (f : α → β) (k : Nat) : ∀ l : List (Nat × α), posU k (l.map fun t => (t.1, f t.2)) = posU k l
  | [] => rfl
  | (j, u) :: r => by simp only [List.map_cons, posU, posU_map f k r]
theorem insG_map {α β : Type} (f : α → β) (k : Nat) (v : α) (l : List (Nat × α)) : (insG k v l).map (fun t => (t.1, f t.2)) = insG k (f v) (l.map fun t => (t.1, f t.2)) := by
  unfold insG
  rw [posU_map, List.getElem?_map]
  cases h : l[posU k l]? with
  | none => simp [List.map_take, List.map_drop]
  | some t =>
    simp only [Option.map_some]
    split
    · rfl
    · simp [List.map_take, List.map_drop]
theorem insG_mem {α : Type} {k : Nat} {v : α} {l : List (Nat × α)} {t : Nat × α} (h : t ∈ insG k v l) : t = (k, v) ∨ t ∈ l := by
  unfold insG at h
  have key : t ∈ l.take (posU k l) ++ (k, v) :: l.drop (posU k l) → t = (k, v) ∨ t ∈ l := by
    intro h
    simp only [List.mem_append, List.mem_cons] at h
    rcases h with h | h | h
    · exact .inr (List.mem_of_mem_take h)
    · exact .inl h
    · exact .inr (List.mem_of_mem_drop h)
  split at h
  · split at h
    · exact .inr h
    · exact key h
  · exact key h
theorem insG_length {α : Type} (k : Nat) (v : α) (l : List (Nat × α)) : (insG k v l).length ≤ l.length + 1 := by
  unfold insG
  have hp := posU_le k l
  split
  · split
    · omega
    · simp; omega
  · simp; omega
/-- The first n tags, laid in one by one. -/
def unkTo (n : Nat) (l : List (Nat × List UInt8)) : List (Nat × List UInt8) := (l.take n).foldl (fun acc t => insU t.1 t.2 acc) []
theorem unkTo_zero (l : List (Nat × List UInt8)) : unkTo 0 l = [] := rfl
theorem unkTo_succ {l : List (Nat × List UInt8)} {n : Nat} {t : Nat × List UInt8} (h : l[n]? = some t) : unkTo (n + 1) l = insU t.1 t.2 (unkTo n l) := by
  unfold unkTo
  rw [List.take_add_one, h, List.foldl_append]
  rfl
theorem unk_unkTo (l : List (Nat × List UInt8)) : unk l = unkTo (min l.length 32767) l := by
  unfold unk unkTo
  rcases Nat.le_total l.length 32767 with h | h
  · rw [Nat.min_eq_left h, List.take_of_length_le h, List.take_of_length_le (Nat.le_refl _)]
  · rw [Nat.min_eq_right h]
theorem unkTo_length (l : List (Nat × List UInt8)) : ∀ n, (unkTo n l).length ≤ n
  | 0 => Nat.le_refl _
  | n + 1 => by
    have ih := unkTo_length l n
    cases h : l[n]? with
    | none =>
      have hn : l.length ≤ n := List.getElem?_eq_none_iff.1 h
      have e : unkTo (n + 1) l = unkTo n l := by unfold unkTo; rw [List.take_of_length_le hn, List.take_of_length_le (by omega)]
      rw [e]
      omega
    | some t =>
      rw [unkTo_succ h, insU_insG]
      have := insG_length t.1 t.2 (unkTo n l)
      omega
theorem unk_len (l : List (Nat × List UInt8)) : (unk l).length ≤ 32767 := by
  rw [unk_unkTo]
  have := unkTo_length l (min l.length 32767)
  omega

/-- The cells of tags: number, octets. -/
abbrev TV := Nat × Go.Value × List UInt8
def cellsU (l : List TV) : List Go.Value := l.flatMap fun t => [.int .u32 (t.1 : Int), t.2.1]
def bytesU (l : List TV) : List (Nat × List UInt8) := l.map fun t => (t.1, t.2.2)
theorem cellsU_length (l : List TV) : (cellsU l).length = l.length * 2 := by
  induction l with
  | nil => rfl
  | cons t l ih => simp only [cellsU, List.flatMap_cons, List.length_append, List.length_cons, List.length_nil] at ih ⊢; omega
theorem cellsU_append (l l' : List TV) : cellsU (l ++ l') = cellsU l ++ cellsU l' := by simp [cellsU]
theorem cellsU_get0 : ∀ (l : List TV) (i : Nat) (t : TV), l[i]? = some t → (cellsU l)[2 * i]? = some (.int .u32 (t.1 : Int))
  | [], i, t, h => by simp at h
  | x :: l, 0, t, h => by simp at h; subst h; rfl
  | x :: l, i + 1, t, h => by
    have := cellsU_get0 l i t (by simpa using h)
    rw [show 2 * (i + 1) = 2 * i + 1 + 1 by omega]
    simpa [cellsU] using this
theorem cellsU_get1 : ∀ (l : List TV) (i : Nat) (t : TV), l[i]? = some t → (cellsU l)[2 * i + 1]? = some t.2.1
  | [], i, t, h => by simp at h
  | x :: l, 0, t, h => by simp at h; subst h; rfl
  | x :: l, i + 1, t, h => by
    have := cellsU_get1 l i t (by simpa using h)
    rw [show 2 * (i + 1) + 1 = 2 * i + 1 + 1 + 1 by omega]
    simpa [cellsU] using this
theorem cellsU_set : ∀ (l : List TV) (i : Nat) (t : TV), i < l.length → ((cellsU l).set (2 * i) (.int .u32 (t.1 : Int))).set (2 * i + 1) t.2.1 = cellsU (l.set i t)
  | [], i, t, h => by simp at h
  | x :: l, 0, t, h => rfl
  | x :: l, i + 1, t, h => by
    have := cellsU_set l i t (by simpa using h)
    rw [show 2 * (i + 1) = 2 * i + 1 + 1 by omega]
    simp only [cellsU, List.flatMap_cons, List.cons_append, List.nil_append, List.set_cons_succ] at this ⊢
    rw [this]
/-- While tags are moved up: the first k, one to be overwritten, the others. -/
theorem shift_get {α : Type} {l : List α} {k : Nat} {x : α} (hk : k < l.length) : (l.take (k + 1) ++ x :: l.drop (k + 1))[k]? = some l[k] := by
  rw [List.getElem?_append_left (by simp; omega), List.getElem?_take, if_pos (by omega), List.getElem?_eq_getElem hk]
theorem shift_at {α : Type} {l : List α} {k : Nat} {x : α} (hk : k ≤ l.length) : (l.take k ++ x :: l.drop k)[k]? = some x := by
  have e : (l.take k).length = k := by rw [List.length_take]; omega
  rw [List.getElem?_append_right (by omega), e, Nat.sub_self, List.getElem?_cons_zero]
theorem shift_set {α : Type} {l : List α} {k : Nat} {x : α} (hk : k < l.length) : (l.take (k + 1) ++ x :: l.drop (k + 1)).set (k + 1) l[k] = l.take k ++ l[k] :: l.drop k := by
  rw [List.set_append_right _ _ (by simp; omega)]
  have e : k + 1 - (l.take (k + 1)).length = 0 := by simp; omega
  rw [e, List.set_cons_zero, List.take_add_one, List.getElem?_eq_getElem hk]
  simp only [Option.toList_some, List.append_assoc, List.cons_append, List.nil_append]
  congr 2
  rw [List.drop_eq_getElem_cons hk]
theorem shift_fin {α : Type} {l : List α} {k : Nat} {x y : α} (hk : k ≤ l.length) : (l.take k ++ x :: l.drop k).set k y = l.take k ++ y :: l.drop k := by
  rw [List.set_append_right _ _ (by simp; omega)]
  have e : k - (l.take k).length = 0 := by simp; omega
  rw [e, List.set_cons_zero]
end Go.Proofs.YtmpilpgabelmiaaGreatDoor

/- The reference's unknown tags: laid in by rising numbers, each once. -/
namespace Go.Proofs.YtmpilpgabelmiaaGreatDoor
open Go Go.RowKit
set_option linter.unusedVariables false

theorem ownsRow_stay {base n k size : Nat} {e : TypeId} {w w' : World} {v : Value} {xs : List Value} (h : w.ownsRow base e size v k xs) (hb : Below n w w') (hn : w.heap.size ≤ n) : w'.ownsRow base e size v k xs := by
  refine ⟨h.1, ?_⟩
  rcases h.2 with hz | ⟨g, cap, cur, hv, hbg, hg, rest⟩
  · exact .inl hz
  · have hlt : g < w.heap.size := (Array.getElem?_eq_some_iff.1 hg).1
    exact .inr ⟨g, cap, cur, hv, hbg, (hb.block g (by omega)).trans hg, rest⟩
theorem ownsRow_mono {w : World} {base base' : Nat} {e : TypeId} {size : Nat} {v : Value} {n : Nat} {xs : List Value} (h : w.ownsRow base e size v n xs) (hb : base' ≤ base) : w.ownsRow base' e size v n xs :=
  ⟨h.1, h.2.imp id fun ⟨g, cap, cur, hv, hg, r⟩ => ⟨g, cap, cur, hv, Nat.le_trans hb hg, r⟩⟩
theorem ownsRow_nz {base k size : Nat} {e : TypeId} {w : World} {v : Value} {xs : List Value} (h : w.ownsRow base e size v k xs) (hk : k ≠ 0) : ∃ g cap, v = .slice (some ⟨g, 0, none⟩) k cap ∧ base ≤ g ∧ g < w.heap.size := by
  rcases h.2 with ⟨-, hz⟩ | ⟨g, cap, cur, hv, hbg, hg, rest⟩
  · exact absurd hz hk
  · exact ⟨g, cap, hv, hbg, (Array.getElem?_eq_some_iff.1 hg).1⟩
theorem ownsRow_shape {base k size : Nat} {e : TypeId} {w : World} {v : Value} {xs : List Value} (h : w.ownsRow base e size v k xs) : ∃ a cap, v = .slice a k cap := by
  rcases h.2 with ⟨rfl, rfl⟩ | ⟨g, cap, cur, rfl, -⟩
  · exact ⟨none, 0, rfl⟩
  · exact ⟨_, _, rfl⟩
theorem tagInfo : (Tryz.prog.info? 68).map (fun i => (i.zero, i.size, i.bytes)) = some (some (.agg #[.int .u32 0, .slice none 0 0]), 2, 32) := by kernel_rfl
/-- Each tag's octets lie below B. -/
def TVs (B : Nat) (w : World) (L : List TV) : Prop := ∀ t ∈ L, t.1 ≤ 4294967295 ∧ RL B w t.2.1 t.2.2
theorem TVs.below {B : Nat} {w w' : World} {L : List TV} (h : TVs B w L) (hk : Below B w w') : TVs B w' L := fun t ht => ⟨(h t ht).1, (h t ht).2.below hk⟩
theorem ownsU_cells {base : Nat} {w : World} {g cap : Nat} {L : List TV} {n : Nat} (h : w.ownsRow base 68 2 (.slice (some ⟨g, 0, none⟩) n cap) n (cellsU L)) (hn : n = L.length) {i : Nat} {t : TV} (hi : L[i]? = some t) :
    w.cell? ⟨g, i * 2, none⟩ = some (.int .u32 (t.1 : Int)) ∧ w.cell? ⟨g, i * 2 + 1, none⟩ = some t.2.1 := by
  have hl := (List.getElem?_eq_some_iff.1 hi).1
  have h0 := h.cellAt (2 * i) (by omega)
  have h1 := h.cellAt (2 * i + 1) (by omega)
  rw [cellsU_get0 L i t hi] at h0
  rw [cellsU_get1 L i t hi] at h1
  rw [Nat.mul_comm i 2]
  exact ⟨h0, h1⟩
theorem ownsU_rep {base B : Nat} {w : World} {v : Value} {L : List TV} (h : w.ownsRow base 68 2 v L.length (cellsU L)) (hL : TVs B w L) (hB : B ≤ w.heap.size) : RepU w.heap.size w (bytesU L) v := by
  have hlen : (bytesU L).length = L.length := by simp [bytesU]
  rcases Nat.eq_zero_or_pos L.length with hz | hz
  · have e : L = [] := List.eq_nil_of_length_eq_zero hz
    subst e
    rcases h.2 with ⟨rfl, -⟩ | ⟨g, cap, cur, rfl, -, -, h1, h2, -⟩
    · exact ⟨none, 0, rfl, Nat.le_refl _, by omega, fun h => absurd rfl h⟩
    · exact ⟨_, cap, rfl, Nat.zero_le _, by unfold maxLen at h2; omega, fun h => absurd rfl h⟩
  · have h' := h
    obtain ⟨-, hs⟩ := h
    rcases hs with ⟨-, h0⟩ | ⟨g, cap, cur, rfl, hbg, hg, h1, h2, -⟩
    · omega
    · refine ⟨some ⟨g, 0, none⟩, cap, by rw [hlen], by rw [hlen]; exact h1, by unfold maxLen at h2; omega, fun _ => ⟨g, 0, rfl, (Array.getElem?_eq_some_iff.1 hg).1, fun i kv hi => ?_⟩⟩
      unfold bytesU at hi
      rw [List.getElem?_map, Option.map_eq_some_iff] at hi
      obtain ⟨t, ht, rfl⟩ := hi
      obtain ⟨c0, c1⟩ := ownsU_cells h' rfl ht
      obtain ⟨l1, l2⟩ := hL t (List.mem_of_getElem? ht)
      rw [Nat.mul_comm i 2] at c0 c1
      rw [Nat.zero_add]
      exact ⟨c0, l1, _, c1, l2.mono hB⟩
theorem keepU {n g : Nat} {w w' : World} {a b : Nat} {x y : Value} {B : Nat} (hb : Below n w w') (hg : g < n) (hB : B < n) (h : w.cell? ⟨g, a, none⟩ = some x ∧ w.cell? ⟨B, b, none⟩ = some y) : w'.cell? ⟨g, a, none⟩ = some x ∧ w'.cell? ⟨B, b, none⟩ = some y :=
  ⟨(hb.cell (p := ⟨g, a, none⟩) hg).trans h.1, (hb.cell (p := ⟨B, b, none⟩) hB).trans h.2⟩
theorem bytesU_ins {L : List TV} {k : Nat} {x : Value} {s : List UInt8} : bytesU (insG k (x, s) L) = insU k s (bytesU L) := by
  unfold bytesU
  rw [insU_insG]
  exact insG_map (fun p : Value × List UInt8 => p.2) k (x, s) L
theorem shift_len {α : Type} {l : List α} {k : Nat} {x : α} : (l.take k ++ x :: l.drop k).length = l.length + 1 := by
  simp
  omega

theorem Below_drewM {B : Nat} {a w : World} (h : Below B a w) (n : Nat) : Below B a (w.drewN n) := ⟨h.os, h.tape, h.output, h.size, h.block⟩
theorem boxApart {w : World} {base b : Nat} {v : Value} {L : List TV} {c0 c1 : Value} (h : w.ownsRow base 68 2 v L.length (cellsU L)) (hnil : L = [] → v = .slice none 0 0) (hb : base ≤ b) :
    ∃ base2, base ≤ base2 ∧ base2 ≤ b + 1 ∧ w.ownsRow base2 68 2 v L.length (cellsU L) ∧
      ∀ (w6 : World) (v' : Value) (xs : List Value), w6.ownsRow base2 68 2 v' (L.length + 1) xs → Blk w6 b [c0, c1] 68 → v'.ownBlock ≠ some b := by
  by_cases hL : L = []
  · subst hL
    obtain rfl := hnil rfl
    refine ⟨b + 1, by omega, Nat.le_refl _, World.ownsRow_nil _ _ _ 2, fun w6 v' xs h6 _ e => ?_⟩
    have := (h6.lt b e).1
    omega
  · refine ⟨base, Nat.le_refl _, by omega, h, fun w6 v' xs h6 hB e => ?_⟩
    rcases h6.2 with ⟨rfl, -⟩ | ⟨g, cap, cur, rfl, -, hg, h1, -, h3, -⟩
    · simp [Value.ownBlock] at e
    · simp only [Value.ownBlock, Option.some.injEq] at e
      subst e
      unfold Blk at hB
      rw [hB] at hg
      simp only [Option.some.injEq, Obj.cells.injEq] at hg
      have hc : cur.size = 2 := by rw [← hg.1]; rfl
      have : 0 < L.length := List.length_pos_iff.2 hL
      omega

set_option maxRecDepth 100000 in
set_option maxHeartbeats 12800000 in
theorem spUnknown (fs : PFs) (ht : fs.noTag) (fv uv : Value) (u : List (Nat × List UInt8)) (B base : Nat) (w : World) (hB : B ≤ base) (hb : base ≤ w.heap.size) (hf : RepF B w fs fv) (hu : RepU B w u uv) :
    Calls Tryz.prog 52 #[fv, uv] w fun e w' => ∃ v, e = .returned v ∧ RepU w'.heap.size w' (unk u) v ∧ Below base w w' := by
  obtain ⟨ua, ucap, rfl, hul, huc, hur⟩ := hu
  have K := Lib.hid (spKnown0 fs ht fv B base w hB hb hf)
  obtain ⟨fa, fcap, rfl, -⟩ := hf
  have HU := Lib.hid hur
  clear hur
  obtain ⟨m, hm⟩ : ∃ m, min u.length 32767 = m := ⟨_, rfl⟩
  have hunk : unk u = unkTo m u := by rw [← hm]; exact unk_unkTo u
  have hml : m ≤ u.length ∧ m ≤ 32767 := by omega
  have UNK := Lib.hid hunk
  clear hunk
  go_enter Tryz.func52, Tryz.ntmps52
  go_wp2_with fail
  refine K.out.mono ?_
  rintro e w1 ⟨rfl, hb1⟩
  have HB1 := Lib.hid hb1
  have z1 := hb1.size
  clear hb1
  go_wp2_with fail
  simp only [takeCount, hm]
  go_loopw [6, 19] (fun v i wq => ∃ (k : Nat) (L : List TV), i = .int .i64 (k : Nat) ∧ k ≤ m ∧ wq.ownsRow w1.heap.size 68 2 v L.length (cellsU L) ∧ (L = [] → v = .slice none 0 0) ∧ bytesU L = unkTo k u ∧ TVs B w L ∧ L.length ≤ k ∧ Below w1.heap.size w1 wq)
    (fun _ i _ => m - (intOf i).toNat)
  case atStart => exact ⟨0, [], rfl, Nat.zero_le _, World.ownsRow_nil _ _ _ 2, fun _ => rfl, rfl, (fun t h => nomatch h), Nat.le_refl _, Below.refl _ _⟩
  case round =>
    obtain ⟨k, L, rfl, hk, hown, hnil, hby, hL, hLk, hbk⟩ := hrel
    rename World => wo
    by_cases hkm : k < m
    · obtain ⟨kv, hkv⟩ : ∃ kv, u[k]? = some kv := ⟨u[k]'(by omega), List.getElem?_eq_getElem (by omega)⟩
      obtain ⟨p, q, rfl, hp, hc⟩ := HU.out (by intro e; subst e; simp at hkv)
      obtain ⟨c0, hkey, x, c1, hx⟩ := hc k kv hkv
      obtain ⟨xa, xcap, rfl, -⟩ := id hx
      rw [Nat.mul_comm 2 k] at c0 c1
      have hpw : p < w1.heap.size := by omega
      have d0 := (hbk.cell (p := ⟨p, q + k * 2, none⟩) hpw).trans ((HB1.out.cell (p := ⟨p, q + k * 2, none⟩) (by show p < base; omega)).trans c0)
      have d1 := (hbk.cell (p := ⟨p, q + k * 2 + 1, none⟩) hpw).trans ((HB1.out.cell (p := ⟨p, q + k * 2 + 1, none⟩) (by show p < base; omega)).trans c1)
      obtain ⟨va, vcap, rfl⟩ := ownsRow_shape hown
      have hvb : (Value.slice va L.length vcap).ownBlock ≠ some wo.heap.size := fun h => Nat.lt_irrefl _ (hown.lt _ h).2
      have zr := hbk.size
      have hk0 : ¬ ((kv.1 : Nat) : Int) < 0 := by omega
      have hsA : (wo.alloc (.cells #[.int .u32 (kv.1 : Int), .slice xa kv.2.length xcap] 68)).heap.size = wo.heap.size + 1 := by simp
      have ZA := Lib.hid (And.intro (hown.alloc (.cells #[.int .u32 (kv.1 : Int), .slice xa kv.2.length xcap] 68)) (And.intro (Blk.alloc_new wo [.int .u32 (kv.1 : Int), .slice xa kv.2.length xcap] 68) (hbk.alloc hbk.size (.cells #[.int .u32 (kv.1 : Int), .slice xa kv.2.length xcap] 68))))
      have hLl : L.length ≤ 32767 := by omega
      have HX := Lib.hid hx
      clear hown hbk hx c0 c1 hc
      go_wp2_with fail
      obtain ⟨wA, hwA⟩ : ∃ wA, wA = wo.alloc (.cells #[.int .u32 (kv.1 : Int), .slice xa kv.2.length xcap] 68) := ⟨_, rfl⟩
      have ZA := Lib.hid ZA.out
      rw [← hwA] at ZA hsA ⊢
      clear hwA d0 d1
      go_loopw [9] (fun i w2 => ∃ j : Nat, i = .int .i64 (j : Nat) ∧ j ≤ posU kv.1 L ∧ Below wA.heap.size wA w2) (fun i _ => L.length - (intOf i).toNat)
      case atStart => exact ⟨0, rfl, Nat.zero_le _, Below.refl _ _⟩
      case round =>
        obtain ⟨j, rfl, hj, hbj⟩ := hrel
        rename World => w2
        have hown2 := ownsRow_stay ZA.out.1 hbj (Nat.le_refl _)
        have hbox2 := ZA.out.2.1.below hbj (by omega)
        have hbk2 : Below w1.heap.size w1 w2 := ZA.out.2.2.trans (hbj.mono (by omega))
        have x0 := hbox2.cell_some (i := 0) rfl
        have x1 := hbox2.cell_some (i := 1) rfl
        by_cases hjl : j < L.length
        · obtain ⟨g, cap, hve, hg1, hg2⟩ := ownsRow_nz hown2 (by omega)
          cases hve
          have hLj : L[j]? = some L[j] := List.getElem?_eq_getElem hjl
          obtain ⟨e0, e1⟩ := ownsU_cells hown2 rfl hLj
          obtain ⟨kj, hkj⟩ : ∃ kj, L[j].1 = kj := ⟨_, rfl⟩
          rw [hkj] at e0
          by_cases hlt : kj < kv.1
          · have FIN := Lib.hid (posU_next kv.1 L j _ hj hLj (by rw [hkj]; exact hlt))
            have FB := Lib.hid hbj.drew
            clear hown2 hbox2 hbk2 hbj e1 hLj
            go_wp2_with fail
            go_region_held3 (fun w' => w'.cell? ⟨g, j * 2, none⟩ = some (.int .u32 (kj : Int)) ∧ w'.cell? ⟨wo.heap.size, 0, none⟩ = some (.int .u32 (kv.1 : Int))) (first | exact ⟨e0, x0⟩) (first | fail)
            go_wp2
            go_roundw
            case rel => exact ⟨j + 1, by go_num, FIN.out, FB.out⟩
            case measure => simp [intOf]; omega
          · have hpos : j = posU kv.1 L := posU_eq kv.1 L j hj (fun t ht => by rw [hLj] at ht; cases ht; omega)
            by_cases heq : kj = kv.1
            · have hins : bytesU L = unkTo (k + 1) u := by
                rw [unkTo_succ hkv, ← hby, ← bytesU_ins (x := .slice xa kv.2.length xcap), insG_there (t := L[j]) (by rw [← hpos]; exact hLj) (by rw [hkj]; exact heq)]
              have Z := Lib.hid (And.intro hown2 (And.intro hbk2 hins))
              subst heq
              clear hown2 hbox2 hbk2 hbj e1 hLj hins hpos
              go_wp2_with fail
              go_region_held3 (fun w' => w'.cell? ⟨g, j * 2, none⟩ = some (.int .u32 (kv.1 : Int)) ∧ w'.cell? ⟨wo.heap.size, 0, none⟩ = some (.int .u32 (kv.1 : Int))) (first | exact ⟨e0, x0⟩) (first | fail)
              go_wp2_with fail
              go_region_held3 (fun w' => w'.cell? ⟨g, j * 2, none⟩ = some (.int .u32 (kv.1 : Int)) ∧ w'.cell? ⟨wo.heap.size, 0, none⟩ = some (.int .u32 (kv.1 : Int))) (first | exact ⟨e0, x0⟩) (first | fail)
              go_wp2
              go_roundw
              case rel => exact ⟨k + 1, L, by go_num, by omega, Z.out.1, hnil, Z.out.2.2, hL, by omega, Z.out.2.1.drew.drew⟩
              case measure => simp [intOf]; omega
            · have hnew : ∀ t, L[posU kv.1 L]? = some t → t.1 ≠ kv.1 := fun t ht => by rw [← hpos, hLj] at ht; cases ht; omega
              have Z := Lib.hid (show w2.drew.drew.ownsRow w1.heap.size 68 2 (.slice (some ⟨g, 0, none⟩) L.length vcap) L.length (cellsU L) ∧ Blk w2.drew.drew wo.heap.size [.int .u32 (kv.1 : Int), .slice xa kv.2.length xcap] 68 ∧ Below w1.heap.size w1 w2.drew.drew from ⟨hown2, hbox2, hbk2.drew.drew⟩)
              subst hpos
              clear hown2 hbox2 hbk2 hbj e1 hLj
              go_wp2_with fail
              go_region_held3 (fun w' => w'.cell? ⟨g, posU kv.1 L * 2, none⟩ = some (.int .u32 (kj : Int)) ∧ w'.cell? ⟨wo.heap.size, 0, none⟩ = some (.int .u32 (kv.1 : Int))) (first | exact ⟨e0, x0⟩) (first | fail)
              go_wp2_with fail
              go_region_held3 (fun w' => w'.cell? ⟨g, posU kv.1 L * 2, none⟩ = some (.int .u32 (kj : Int)) ∧ w'.cell? ⟨wo.heap.size, 0, none⟩ = some (.int .u32 (kv.1 : Int))) (first | exact ⟨e0, x0⟩) (first | fail)
              clear e0
              have hzz : w2.drew.drew.heap.size = w2.heap.size := rfl
              generalize w2.drew.drew = wz at *
              go_wp2_with (at_builtin; refine halted ?_)
              case roundEnd =>
                exfalso
                rename_i hbad
                first
                  | omega
                  | (rcases hbad with h | h
                     · omega
                     · have := eq_of_beq h
                       omega)
              obtain ⟨hown2, hbox2, hbk2⟩ := Z.out
              obtain ⟨base2, hz1, hz2, hown2', hap⟩ := boxApart (b := wo.heap.size) (c0 := .int .u32 (kv.1 : Int)) (c1 := .slice xa kv.2.length xcap) hown2 hnil (by omega)
              have hs2 := hbox2.lt
              obtain ⟨i0, hi, hz, hs, hby⟩ := info_parts tagInfo
              have c5 := Blk.alloc_new wz [.int .u32 0, .slice none 0 0] 68
              have hzz' := hzz
              refine wpl_append_src (by rfl) (.tmp 59) (.tmp 61) 24 24 (by rfl) base2 68 i0 _ 2 32 Tryz.underlying24 hi hz hs hby (by rfl) (.slice (some ⟨g, 0, none⟩) L.length vcap) L.length (cellsU L) (by rfl) (hown2'.alloc _) (.slice (some ⟨w2.heap.size, 0, none⟩) 1 1) 1 [.int .u32 0, .slice none 0 0] (by rfl)
                (Src.ofSlice _ Tryz.underlying24 _ 1 1 _ rfl ?_ ?_) (by unfold maxLen; omega) (by omega) (by simp; omega) ?_
              · intro i u hu
                rw [Addr.add_lit, ← hzz]
                exact c5.cell_some (by simpa using hu)
              · intro u hu
                simp only [List.mem_cons, List.not_mem_nil, or_false] at hu
                rcases hu with rfl | rfl <;> rfl
              intro v' w6 hown6 hg6 _
              have hb6 : Below w1.heap.size wz w6 := ((Below.refl w1.heap.size wz).alloc (by have := hbk2.size; omega) _).grown hg6 (by simp; have := hbk2.size; omega) (fun k hk => (hown2.lt k hk).1)
              have hbox6 : Blk w6 wo.heap.size [.int .u32 (kv.1 : Int), .slice xa kv.2.length xcap] 68 := by
                refine (hg6.block _ ?_ ?_).trans (hbox2.alloc _)
                · simp; omega
                · intro e
                  exact hvb e.symm
              have hne := hap w6 v' _ hown6 hbox6
              have hown6 := ownsRow_mono hown6 hz1
              obtain ⟨g', cap', rfl, hg1, hg2⟩ := ownsRow_nz hown6 (by omega)
              have hne : g' ≠ wo.heap.size := fun e => hne (by simp [Value.ownBlock, e])
              have hbk6 : Below w1.heap.size w1 w6 := hbk2.trans hb6
              have Q6 := Lib.hid (And.intro hown6 (And.intro hbox6 hbk6))
              clear hown6 hbox6 hbk6 hb6 hg6 hap hown2 hown2' hbox2 hbk2 hi hz hs hby c5 Z
              go_wp2_with fail
              go_loopw [10] (fun i w3 => ∃ (s : Nat) (z : TV), i = .int .i64 (s : Nat) ∧ posU kv.1 L ≤ s ∧ s ≤ L.length ∧ w3.ownsRow w1.heap.size 68 2 (.slice (some ⟨g', 0, none⟩) (L.length + 1) cap') (L.length + 1) (cellsU (L.take s ++ z :: L.drop s)) ∧
                  Blk w3 wo.heap.size [.int .u32 (kv.1 : Int), .slice xa kv.2.length xcap] 68 ∧ Below w1.heap.size w1 w3) (fun i _ => (intOf i).toNat)
              case atStart =>
                obtain ⟨h1, h2, h3⟩ := Q6.out
                refine ⟨L.length, (0, .slice none 0 0, []), by go_num, posU_le _ _, Nat.le_refl _, ?_, h2, h3⟩
                rw [List.take_of_length_le (Nat.le_refl _), List.drop_of_length_le (Nat.le_refl _), cellsU_append]
                exact h1
              case round =>
                obtain ⟨s, z, rfl, hs1, hs2, hown3, hbox3, hbk3⟩ := hrel
                rename World => w3
                rcases Nat.lt_or_ge (posU kv.1 L) s with hlt | hge
                · obtain ⟨s', rfl⟩ : ∃ s', s = s' + 1 := ⟨s - 1, by omega⟩
                  have hsl : s' < L.length := by omega
                  obtain ⟨a0, a1⟩ := ownsU_cells hown3 shift_len.symm (shift_get hsl)
                  obtain ⟨b0, b1⟩ := ownsU_cells (i := s' + 1) (t := z) hown3 shift_len.symm (shift_at (by omega))
                  have f0 := hown3.frozenAt ((s' + 1) * 2)
                  have f1 := hown3.frozenAt ((s' + 1) * 2 + 1)
                  obtain ⟨la, lcap, hle, -⟩ := (hL _ (List.getElem_mem hsl)).2
                  rw [hle] at a1
                  have hsle : ((L[s'].1 : Nat) : Int) = (L[s'].1 : Int) := rfl
                  have e1 : (((s' + 1 : Nat) : Int)) = (s' : Int) + 1 := by omega
                  have st1 := hown3.stored ((s' + 1) * 2) (.int .u32 (L[s'].1 : Int))
                  have st2 := st1.1.stored ((s' + 1) * 2 + 1) (.slice la (L[s'].2.2).length lcap)
                  have hfin : ∃ (s : Nat) (z : TV), Value.int .i64 (s' : Int) = .int .i64 (s : Nat) ∧ posU kv.1 L ≤ s ∧ s ≤ L.length ∧ ((w3.setCell ⟨g', (s' + 1) * 2, none⟩ (.int .u32 (L[s'].1 : Int))).setCell ⟨g', (s' + 1) * 2 + 1, none⟩ (.slice la (L[s'].2.2).length lcap)).ownsRow w1.heap.size 68 2 (.slice (some ⟨g', 0, none⟩) (L.length + 1) cap') (L.length + 1) (cellsU (L.take s ++ z :: L.drop s)) ∧
                      Blk ((w3.setCell ⟨g', (s' + 1) * 2, none⟩ (.int .u32 (L[s'].1 : Int))).setCell ⟨g', (s' + 1) * 2 + 1, none⟩ (.slice la (L[s'].2.2).length lcap)) wo.heap.size [.int .u32 (kv.1 : Int), .slice xa kv.2.length xcap] 68 ∧ Below w1.heap.size w1 ((w3.setCell ⟨g', (s' + 1) * 2, none⟩ (.int .u32 (L[s'].1 : Int))).setCell ⟨g', (s' + 1) * 2 + 1, none⟩ (.slice la (L[s'].2.2).length lcap)) := by
                    refine ⟨s', L[s'], rfl, by omega, by omega, ?_, (hbox3.set_other (fun e => hne e.symm) _ _).set_other (fun e => hne e.symm) _ _, (hbk3.setCell (p := ⟨g', (s' + 1) * 2, none⟩) hg1 _).setCell (p := ⟨g', (s' + 1) * 2 + 1, none⟩) hg1 _⟩
                    have h := st2.1
                    have e2 := cellsU_set (L.take (s' + 1) ++ z :: L.drop (s' + 1)) (s' + 1) L[s'] (by rw [shift_len]; omega)
                    rw [hle, Nat.mul_comm 2 (s' + 1), shift_set hsl] at e2
                    rw [e2] at h
                    exact h
                  have FIN := Lib.hid hfin
                  clear hfin hown3 hbox3 hbk3 st1 st2 hle Q6
                  rw [e1] at *
                  go_wp2
                  go_roundw
                  case rel => exact FIN.out
                  case measure => simp [intOf]
                · obtain rfl : s = posU kv.1 L := by omega
                  obtain ⟨x0, x1⟩ : w3.cell? ⟨wo.heap.size, 0, none⟩ = some (.int .u32 (kv.1 : Int)) ∧ w3.cell? ⟨wo.heap.size, 1, none⟩ = some (.slice xa kv.2.length xcap) := ⟨hbox3.cell_some rfl, hbox3.cell_some rfl⟩
                  obtain ⟨b0, b1⟩ := ownsU_cells (i := posU kv.1 L) (t := z) hown3 shift_len.symm (shift_at (posU_le _ _))
                  have f0 := hown3.frozenAt (posU kv.1 L * 2)
                  have f1 := hown3.frozenAt (posU kv.1 L * 2 + 1)
                  have st1 := hown3.stored (posU kv.1 L * 2) (.int .u32 (kv.1 : Int))
                  have st2 := st1.1.stored (posU kv.1 L * 2 + 1) (.slice xa kv.2.length xcap)
                  have hlen : (L.take (posU kv.1 L) ++ (kv.1, Value.slice xa kv.2.length xcap, kv.2) :: L.drop (posU kv.1 L)).length = L.length + 1 := shift_len
                  have hfin : ∃ (k' : Nat) (L' : List TV), Value.int .i64 ((k : Int) + 1) = .int .i64 (k' : Nat) ∧ k' ≤ m ∧ ((w3.setCell ⟨g', posU kv.1 L * 2, none⟩ (.int .u32 (kv.1 : Int))).setCell ⟨g', posU kv.1 L * 2 + 1, none⟩ (.slice xa kv.2.length xcap)).ownsRow w1.heap.size 68 2 (.slice (some ⟨g', 0, none⟩) (L.length + 1) cap') L'.length (cellsU L') ∧ (L' = [] → Value.slice (some ⟨g', 0, none⟩) (L.length + 1) cap' = .slice none 0 0) ∧
                      bytesU L' = unkTo k' u ∧ TVs B w L' ∧ L'.length ≤ k' ∧ Below w1.heap.size w1 ((w3.setCell ⟨g', posU kv.1 L * 2, none⟩ (.int .u32 (kv.1 : Int))).setCell ⟨g', posU kv.1 L * 2 + 1, none⟩ (.slice xa kv.2.length xcap)) := by
                    refine ⟨k + 1, L.take (posU kv.1 L) ++ (kv.1, Value.slice xa kv.2.length xcap, kv.2) :: L.drop (posU kv.1 L), by go_num, by omega, ?_, fun h => by simp at h, ?_, ?_, by omega, (hbk3.setCell (p := ⟨g', posU kv.1 L * 2, none⟩) hg1 _).setCell (p := ⟨g', posU kv.1 L * 2 + 1, none⟩) hg1 _⟩
                    · have h := st2.1
                      have e2 := cellsU_set (L.take (posU kv.1 L) ++ z :: L.drop (posU kv.1 L)) (posU kv.1 L) (kv.1, Value.slice xa kv.2.length xcap, kv.2) (by rw [shift_len]; have := posU_le kv.1 L; omega)
                      rw [Nat.mul_comm 2 (posU kv.1 L), shift_fin (posU_le _ _)] at e2
                      rw [e2] at h
                      rw [hlen]
                      exact h
                    · rw [unkTo_succ hkv, ← hby, ← bytesU_ins (x := .slice xa kv.2.length xcap), insG_new hnew]
                    · rw [← insG_new (v := (Value.slice xa kv.2.length xcap, kv.2)) hnew]
                      intro t ht
                      rcases insG_mem ht with rfl | ht
                      · exact ⟨hkey, HX.out⟩
                      · exact hL t ht
                  have FIN := Lib.hid hfin
                  clear hfin hown3 hbox3 hbk3 st1 st2 Q6
                  go_wp2
                  go_roundw
                  case rel => exact FIN.out
                  case measure => simp [intOf]; omega
        · have hpos : j = posU kv.1 L := posU_eq kv.1 L j hj (fun t ht => by rw [List.getElem?_eq_none (by omega)] at ht; cases ht)
          have hnew : ∀ t, L[posU kv.1 L]? = some t → t.1 ≠ kv.1 := fun t ht => by rw [← hpos, List.getElem?_eq_none (by omega)] at ht; cases ht
          have Z := Lib.hid (show w2.drew.drew.ownsRow w1.heap.size 68 2 (.slice va L.length vcap) L.length (cellsU L) ∧ Blk w2.drew.drew wo.heap.size [.int .u32 (kv.1 : Int), .slice xa kv.2.length xcap] 68 ∧ Below w1.heap.size w1 w2.drew.drew from ⟨hown2, hbox2, hbk2.drew.drew⟩)
          subst hpos
          clear hown2 hbox2 hbk2 hbj
          go_wp2_with fail
          go_region
          have hkd : decide (((kv.1 : Nat) : Int) < 0) = false := by simp
          go_wp2_with fail
          go_region
          have hzz : w2.drew.drew.heap.size = w2.heap.size := rfl
          generalize w2.drew.drew = wz at *
          go_wp2_with (at_builtin; refine halted ?_)
          obtain ⟨hown2, hbox2, hbk2⟩ := Z.out
          obtain ⟨base2, hz1, hz2, hown2', hap⟩ := boxApart (b := wo.heap.size) (c0 := .int .u32 (kv.1 : Int)) (c1 := .slice xa kv.2.length xcap) hown2 hnil (by omega)
          have hs2 := hbox2.lt
          obtain ⟨i0, hi, hz, hs, hby⟩ := info_parts tagInfo
          have c5 := Blk.alloc_new wz [.int .u32 0, .slice none 0 0] 68
          have hzz' := hzz
          refine wpl_append_src (by rfl) (.tmp 59) (.tmp 61) 24 24 (by rfl) base2 68 i0 _ 2 32 Tryz.underlying24 hi hz hs hby (by rfl) (.slice va L.length vcap) L.length (cellsU L) (by rfl) (hown2'.alloc _) (.slice (some ⟨w2.heap.size, 0, none⟩) 1 1) 1 [.int .u32 0, .slice none 0 0] (by rfl)
            (Src.ofSlice _ Tryz.underlying24 _ 1 1 _ rfl ?_ ?_) (by unfold maxLen; omega) (by omega) (by simp; omega) ?_
          · intro i u hu
            rw [Addr.add_lit, ← hzz]
            exact c5.cell_some (by simpa using hu)
          · intro u hu
            simp only [List.mem_cons, List.not_mem_nil, or_false] at hu
            rcases hu with rfl | rfl <;> rfl
          intro v' w6 hown6 hg6 _
          have hb6 : Below w1.heap.size wz w6 := ((Below.refl w1.heap.size wz).alloc (by have := hbk2.size; omega) _).grown hg6 (by simp; have := hbk2.size; omega) (fun k hk => (hown2.lt k hk).1)
          have hbox6 : Blk w6 wo.heap.size [.int .u32 (kv.1 : Int), .slice xa kv.2.length xcap] 68 := by
            refine (hg6.block _ ?_ ?_).trans (hbox2.alloc _)
            · simp; omega
            · intro e
              exact hvb e.symm
          have hne := hap w6 v' _ hown6 hbox6
          have hown6 := ownsRow_mono hown6 hz1
          obtain ⟨g', cap', rfl, hg1, hg2⟩ := ownsRow_nz hown6 (by omega)
          have hne : g' ≠ wo.heap.size := fun e => hne (by simp [Value.ownBlock, e])
          have hbk6 : Below w1.heap.size w1 w6 := hbk2.trans hb6
          have Q6 := Lib.hid (And.intro hown6 (And.intro hbox6 hbk6))
          clear hown6 hbox6 hbk6 hb6 hg6 hap hown2 hown2' hbox2 hbk2 hi hz hs hby c5 Z
          go_wp2_with fail
          go_loopw [10] (fun i w3 => ∃ (s : Nat) (z : TV), i = .int .i64 (s : Nat) ∧ posU kv.1 L ≤ s ∧ s ≤ L.length ∧ w3.ownsRow w1.heap.size 68 2 (.slice (some ⟨g', 0, none⟩) (L.length + 1) cap') (L.length + 1) (cellsU (L.take s ++ z :: L.drop s)) ∧
              Blk w3 wo.heap.size [.int .u32 (kv.1 : Int), .slice xa kv.2.length xcap] 68 ∧ Below w1.heap.size w1 w3) (fun i _ => (intOf i).toNat)
          case atStart =>
            obtain ⟨h1, h2, h3⟩ := Q6.out
            refine ⟨L.length, (0, .slice none 0 0, []), by go_num, posU_le _ _, Nat.le_refl _, ?_, h2, h3⟩
            rw [List.take_of_length_le (Nat.le_refl _), List.drop_of_length_le (Nat.le_refl _), cellsU_append]
            exact h1
          case round =>
            obtain ⟨s, z, rfl, hs1, hs2, hown3, hbox3, hbk3⟩ := hrel
            rename World => w3
            rcases Nat.lt_or_ge (posU kv.1 L) s with hlt | hge
            · exfalso
              omega
            · obtain rfl : s = posU kv.1 L := by omega
              obtain ⟨x0, x1⟩ : w3.cell? ⟨wo.heap.size, 0, none⟩ = some (.int .u32 (kv.1 : Int)) ∧ w3.cell? ⟨wo.heap.size, 1, none⟩ = some (.slice xa kv.2.length xcap) := ⟨hbox3.cell_some rfl, hbox3.cell_some rfl⟩
              obtain ⟨b0, b1⟩ := ownsU_cells (i := posU kv.1 L) (t := z) hown3 shift_len.symm (shift_at (posU_le _ _))
              have f0 := hown3.frozenAt (posU kv.1 L * 2)
              have f1 := hown3.frozenAt (posU kv.1 L * 2 + 1)
              have st1 := hown3.stored (posU kv.1 L * 2) (.int .u32 (kv.1 : Int))
              have st2 := st1.1.stored (posU kv.1 L * 2 + 1) (.slice xa kv.2.length xcap)
              have hlen : (L.take (posU kv.1 L) ++ (kv.1, Value.slice xa kv.2.length xcap, kv.2) :: L.drop (posU kv.1 L)).length = L.length + 1 := shift_len
              have hfin : ∃ (k' : Nat) (L' : List TV), Value.int .i64 ((k : Int) + 1) = .int .i64 (k' : Nat) ∧ k' ≤ m ∧ ((w3.setCell ⟨g', posU kv.1 L * 2, none⟩ (.int .u32 (kv.1 : Int))).setCell ⟨g', posU kv.1 L * 2 + 1, none⟩ (.slice xa kv.2.length xcap)).ownsRow w1.heap.size 68 2 (.slice (some ⟨g', 0, none⟩) (L.length + 1) cap') L'.length (cellsU L') ∧ (L' = [] → Value.slice (some ⟨g', 0, none⟩) (L.length + 1) cap' = .slice none 0 0) ∧
                  bytesU L' = unkTo k' u ∧ TVs B w L' ∧ L'.length ≤ k' ∧ Below w1.heap.size w1 ((w3.setCell ⟨g', posU kv.1 L * 2, none⟩ (.int .u32 (kv.1 : Int))).setCell ⟨g', posU kv.1 L * 2 + 1, none⟩ (.slice xa kv.2.length xcap)) := by
                refine ⟨k + 1, L.take (posU kv.1 L) ++ (kv.1, Value.slice xa kv.2.length xcap, kv.2) :: L.drop (posU kv.1 L), by go_num, by omega, ?_, fun h => by simp at h, ?_, ?_, by omega, (hbk3.setCell (p := ⟨g', posU kv.1 L * 2, none⟩) hg1 _).setCell (p := ⟨g', posU kv.1 L * 2 + 1, none⟩) hg1 _⟩
                · have h := st2.1
                  have e2 := cellsU_set (L.take (posU kv.1 L) ++ z :: L.drop (posU kv.1 L)) (posU kv.1 L) (kv.1, Value.slice xa kv.2.length xcap, kv.2) (by rw [shift_len]; have := posU_le kv.1 L; omega)
                  rw [Nat.mul_comm 2 (posU kv.1 L), shift_fin (posU_le _ _)] at e2
                  rw [e2] at h
                  rw [hlen]
                  exact h
                · rw [unkTo_succ hkv, ← hby, ← bytesU_ins (x := .slice xa kv.2.length xcap), insG_new hnew]
                · rw [← insG_new (v := (Value.slice xa kv.2.length xcap, kv.2)) hnew]
                  intro t ht
                  rcases insG_mem ht with rfl | ht
                  · exact ⟨hkey, HX.out⟩
                  · exact hL t ht
              have FIN := Lib.hid hfin
              clear hfin hown3 hbox3 hbk3 st1 st2 Q6
              go_wp2
              go_roundw
              case rel => exact FIN.out
              case measure => simp [intOf]; omega
    · obtain rfl : k = m := by omega
      obtain ⟨va, vcap, rfl⟩ := ownsRow_shape hown
      have R := Lib.hid (And.intro hown (And.intro hL (And.intro hby hbk)))
      clear hown hL hby hbk
      go_wp2
      go_ret
      obtain ⟨hown, hL, hby, hbk⟩ := R.out
      have hbf := HB1.out.trans (hbk.mono (Nat.le_trans hb z1))
      refine ⟨_, rfl, ?_, hbf⟩
      have e : unk u = bytesU L := by rw [UNK.out, hby]
      rw [e]
      exact ownsU_rep hown (hL.below (hbf.mono hB)) (by have := hbf.size; omega)
end Go.Proofs.YtmpilpgabelmiaaGreatDoor

/- The reference's field that is a part which may be null. -/
namespace Go.Proofs.YtmpilpgabelmiaaGreatDoor
open Go Go.RowKit

theorem keep6 {n g : Nat} {w w' : World} {f7 v0 v1 v2 v3 v4 : Value} (hb : Below n w w') (hg : g + 1 < n)
    (h : w.cell? ⟨g, 7, none⟩ = some f7 ∧ w.cell? ⟨g + 1, 0, none⟩ = some v0 ∧ w.cell? ⟨g + 1, 1, none⟩ = some v1 ∧ w.cell? ⟨g + 1, 2, none⟩ = some v2 ∧ w.cell? ⟨g + 1, 3, none⟩ = some v3 ∧ w.cell? ⟨g + 1, 4, none⟩ = some v4) :
    w'.cell? ⟨g, 7, none⟩ = some f7 ∧ w'.cell? ⟨g + 1, 0, none⟩ = some v0 ∧ w'.cell? ⟨g + 1, 1, none⟩ = some v1 ∧ w'.cell? ⟨g + 1, 2, none⟩ = some v2 ∧ w'.cell? ⟨g + 1, 3, none⟩ = some v3 ∧ w'.cell? ⟨g + 1, 4, none⟩ = some v4 := by
  have k0 := fun i => hb.cell (p := ⟨g, i, none⟩) (by show g < n; omega)
  have k1 := fun i => hb.cell (p := ⟨g + 1, i, none⟩) hg
  exact ⟨(k0 7).trans h.1, (k1 0).trans h.2.1, (k1 1).trans h.2.2.1, (k1 2).trans h.2.2.2.1, (k1 3).trans h.2.2.2.2.1, (k1 4).trans h.2.2.2.2.2⟩
set_option maxRecDepth 100000 in
set_option maxHeartbeats 3200000 in
theorem spFieldOpt_null (fr to nu tg df ok : Int) (sub : PFs) (ver : Int) (flex : Bool) (t : Tree) (hnu : 0 ≤ nu) (hn : pNull nu ver t = true) : FieldC 10 fr to nu tg df ok sub ver flex t := by
  intro B base w fv c hB hb hf ht hl
  have e : pField ver flex 10 nu ok (pPart ver flex sub) t = fixed (-1) 1 := by simp [pField, hn, hnu]
  rw [e]
  clear e hl
  have NL := fun w' (hw : B ≤ w'.heap.size) (hr : RepT B w' c t) => spNullT 10 fr to nu tg df ok fv ver t c B w'.heap.size w' (Nat.le_refl _) hr
  rw [hn] at NL
  obtain ⟨sv, lv, uv, rfl, -, ⟨sa, sc, rfl, -⟩, ⟨la, lc, lf, rfl, -⟩, ⟨ua, uc, rfl, -⟩⟩ := ht.parts
  obtain ⟨fa, fcap, rfl, -⟩ := id hf
  have N := Lib.hid NL
  clear NL hn
  have hb1 := fun o => (Below.refl base w).alloc hb o
  have hb2 := fun o o' => (hb1 o).alloc (Nat.le_trans hb (by simp)) o'
  have H := Lib.hid (And.intro hf ht)
  clear hf ht
  have e1 : ∀ o o', ((w.alloc o).alloc o').heap.size = w.heap.size + 2 := by intro o o'; simp
  go_enter Tryz.func47, Tryz.ntmps47
  go_wp2_with fail
  refine (N.out _ (by rw [e1]; omega) (H.out.2.keep ((hb2 _ _).mono hB))).mono ?_
  rintro e w3 ⟨rfl, hb3⟩
  obtain ⟨x0, x1, x2, x3, x4, x5, x6, x7⟩ := boxF (((Blk.alloc_new w [.int .i64 10, .int .i64 fr, .int .i64 to, .int .i64 nu, .int .i64 tg, .int .i64 df, .int .i64 ok, .slice fa sub.len fcap] 45).alloc
    (.cells #[.int .i64 t.n, .slice sa t.s.length sc, .bool t.null, .slice la t.l.length lc, .slice ua t.u.length uc] 26)).below hb3 (by rw [e1]; omega))
  have hb4 := (hb2 _ _).trans (hb3.mono (by rw [e1]; omega))
  go_wp2_with fail
  refine (spFixed1 (-1) base w3 (Nat.le_trans hb hb4.size)).mono ?_
  rintro e w4 ⟨v4, rfl, hown, hb5⟩
  have FIN := Lib.hid (And.intro hown (hb4.trans hb5))
  clear hown hb5
  go_wp2
  go_ret
  exact .mk FIN.out.1 FIN.out.2
set_option maxRecDepth 100000 in
set_option maxHeartbeats 3200000 in
theorem spFieldOpt_some (fr to nu tg df ok : Int) (sub : PFs) (ver : Int) (flex : Bool) (t : Tree) (hnu : 0 ≤ nu) (hn : pNull nu ver t = false) (hp : PartC sub ver flex t) : FieldC 10 fr to nu tg df ok sub ver flex t := by
  intro B base w fv c hB hb hf ht hl
  have e : pField ver flex 10 nu ok (pPart ver flex sub) t = fixed 1 1 ++ pPart ver flex sub t := by simp [pField, hn, hnu]
  rw [e] at hl ⊢
  clear e
  have NL := fun w' (hw : B ≤ w'.heap.size) (hr : RepT B w' c t) => spNullT 10 fr to nu tg df ok fv ver t c B w'.heap.size w' (Nat.le_refl _) hr
  rw [hn] at NL
  obtain ⟨sv, lv, uv, rfl, -, ⟨sa, sc, rfl, -⟩, ⟨la, lc, lf, rfl, -⟩, ⟨ua, uc, rfl, -⟩⟩ := ht.parts
  obtain ⟨fa, fcap, rfl, -⟩ := id hf
  have N := Lib.hid NL
  have V := Lib.hid hp
  clear NL hn hp
  have hb1 := fun o => (Below.refl base w).alloc hb o
  have hb2 := fun o o' => (hb1 o).alloc (Nat.le_trans hb (by simp)) o'
  have H := Lib.hid (And.intro hf ht)
  clear hf ht
  have e1 : ∀ o o', ((w.alloc o).alloc o').heap.size = w.heap.size + 2 := by intro o o'; simp
  go_enter Tryz.func47, Tryz.ntmps47
  go_wp2_with fail
  refine (N.out _ (by rw [e1]; omega) (H.out.2.keep ((hb2 _ _).mono hB))).mono ?_
  rintro e w3 ⟨rfl, hb3⟩
  obtain ⟨x0, x1, x2, x3, x4, x5, x6, x7⟩ := boxF (((Blk.alloc_new w [.int .i64 10, .int .i64 fr, .int .i64 to, .int .i64 nu, .int .i64 tg, .int .i64 df, .int .i64 ok, .slice fa sub.len fcap] 45).alloc
    (.cells #[.int .i64 t.n, .slice sa t.s.length sc, .bool t.null, .slice la t.l.length lc, .slice ua t.u.length uc] 26)).below hb3 (by rw [e1]; omega))
  obtain ⟨y0, y1, y2, y3, y4⟩ := boxT ((Blk.alloc_new2 w (.cells #[.int .i64 10, .int .i64 fr, .int .i64 to, .int .i64 nu, .int .i64 tg, .int .i64 df, .int .i64 ok, .slice fa sub.len fcap] 45)
    [.int .i64 t.n, .slice sa t.s.length sc, .bool t.null, .slice la t.l.length lc, .slice ua t.u.length uc] 26).below hb3 (by rw [e1]; omega))
  have hb4 := (hb2 _ _).trans (hb3.mono (by rw [e1]; omega))
  have z3 : w.heap.size + 2 ≤ w3.heap.size := by have := hb3.size; rw [e1] at this; exact this
  have c : w3.drew.cell? ⟨w.heap.size, 7, none⟩ = some (.slice fa sub.len fcap) ∧ w3.drew.cell? ⟨w.heap.size + 1, 0, none⟩ = some (.int .i64 t.n) ∧ w3.drew.cell? ⟨w.heap.size + 1, 1, none⟩ = some (.slice sa t.s.length sc) ∧ w3.drew.cell? ⟨w.heap.size + 1, 2, none⟩ = some (.bool t.null) ∧ w3.drew.cell? ⟨w.heap.size + 1, 3, none⟩ = some (.slice la t.l.length lc) ∧ w3.drew.cell? ⟨w.heap.size + 1, 4, none⟩ = some (.slice ua t.u.length uc) := ⟨x7, y0, y1, y2, y3, y4⟩
  have C := Lib.hid (And.intro c hb4.drew)
  have zd : w3.drew.heap.size = w3.heap.size := rfl
  clear c hb4 hb3 y0 y1 y2 y3 y4
  go_wp2_with fail
  go_region_held3 (fun w' => w'.cell? ⟨w.heap.size, 7, none⟩ = some (.slice fa sub.len fcap) ∧ w'.cell? ⟨w.heap.size + 1, 0, none⟩ = some (.int .i64 t.n) ∧ w'.cell? ⟨w.heap.size + 1, 1, none⟩ = some (.slice sa t.s.length sc) ∧ w'.cell? ⟨w.heap.size + 1, 2, none⟩ = some (.bool t.null) ∧ w'.cell? ⟨w.heap.size + 1, 3, none⟩ = some (.slice la t.l.length lc) ∧ w'.cell? ⟨w.heap.size + 1, 4, none⟩ = some (.slice ua t.u.length uc))
    (first | exact C.out.1 | exact hS4 | exact hS5 | exact hS6)
    (first
      | (go_at_call 16; refine (spFixed1 1 w3.drew.heap.size w3.drew (Nat.le_refl _)).mono ?_; rintro e w4 ⟨v4, rfl, hown4, hb4⟩; have z4 := hb4.size; have hS4 := keep6 hb4 (by omega) C.out.1)
      | (go_at_call 23; refine (V.out B w4.heap.size w4 _ _ (by omega) (Nat.le_refl _) (H.out.1.below ((C.out.2.trans (hb4.mono (by omega))).mono hB)) (H.out.2.keep ((C.out.2.trans (hb4.mono (by omega))).mono hB)) (by simp only [List.length_append] at hl; omega)).mono ?_; rintro e w5 ⟨v5, rfl, hown5, hb5⟩; have z5 := hb5.size; have hS5 := keep6 hb5 (by omega) hS4)
      | (refine step_append_from bt rfl (.tmp 59) (.tmp 65) rfl w3.drew.heap.size _ (hown4.stay hb5 (Nat.le_refl _)) (by omega) _ (Src.ofRL (B := w5.heap.size) Tryz.underlying22 hown5.rl) (by rw [← List.length_append]; exact hl) ?_; intro v6 w6 hown6 hb6; have hS6 := keep6 hb6 (by omega) hS5))
  have zb := C.out.2.size
  have FIN := Lib.hid (And.intro (hown6.mono (show base ≤ w3.drew.heap.size by omega)) (C.out.2.trans (((hb4.mono (by omega)).trans (hb5.mono (by omega))).trans (hb6.mono (by omega)))))
  clear hown4 hown5 hown6 hb4 hb5 hb6 hS4 hS5 hS6
  go_wp2
  go_ret
  exact .mk FIN.out.1 FIN.out.2
end Go.Proofs.YtmpilpgabelmiaaGreatDoor
