/- The reference's small functions over fields and trees. -/
import Derived.Test.YtkhpglongkhbjaaSpa
namespace Go.Proofs.Ytkhpglongkhbjaa
open Go Go.RowKit
set_option linter.unusedVariables false

/-- Function f answers v; below base nothing has turned. -/
def Says (P : Program) (f : Nat) (args : Array Value) (w : World) (base : Nat) (v : Value) : Prop := Calls P f args w fun e w' => e = .returned v ∧ Below base w w'

set_option maxHeartbeats 400000 in
theorem spWidth (k : Int) (w : World) : Calls Try.prog 50 #[.int .i64 k] w fun e w' => e = .returned (.int .i64 (pWidth k : Nat)) ∧ w' = w := by
  unfold pWidth
  by_cases h1 : k = 1
  · subst h1
    go_enter Try.func50, Try.ntmps50
    go_wp2
    go_ret
    exact ⟨rfl, rfl⟩
  by_cases h2 : k = 2
  · subst h2
    go_enter Try.func50, Try.ntmps50
    go_wp2
    go_ret
    exact ⟨rfl, rfl⟩
  by_cases h5 : k = 5
  · subst h5
    go_enter Try.func50, Try.ntmps50
    go_wp2
    go_ret
    exact ⟨rfl, rfl⟩
  by_cases h3 : k = 3
  · subst h3
    go_enter Try.func50, Try.ntmps50
    go_wp2
    go_ret
    exact ⟨rfl, rfl⟩
  · go_enter Try.func50, Try.ntmps50
    go_wp2
    go_ret
    simp

set_option maxHeartbeats 800000 in
theorem spHas (k fr to nu tg df ok : Int) (sv : Value) (ver : Int) (base : Nat) (w : World) (hb : base ≤ w.heap.size) :
    Says Try.prog 31 #[.agg #[.int .i64 k, .int .i64 fr, .int .i64 to, .int .i64 nu, .int .i64 tg, .int .i64 df, .int .i64 ok, sv], .int .i64 ver] w base (.bool (pHas fr to ver)) := by
  have hbel := (Below.refl base w).alloc hb
  unfold pHas
  by_cases h1 : fr ≤ ver <;> by_cases h2 : to < 0 <;> by_cases h3 : ver ≤ to <;>
  · go_enter Try.func31, Try.ntmps31
    go_wp2
    go_ret
    refine ⟨?_, hbel _⟩
    simp [h1, h2, h3]

set_option maxHeartbeats 800000 in
theorem spNull (k fr to nu tg df ok : Int) (sv : Value) (ver n : Int) (s : Value) (b : Bool) (l u : Value) (base : Nat) (w : World) (hb : base ≤ w.heap.size) :
    Says Try.prog 45 #[.agg #[.int .i64 k, .int .i64 fr, .int .i64 to, .int .i64 nu, .int .i64 tg, .int .i64 df, .int .i64 ok, sv], .int .i64 ver, .agg #[.int .i64 n, s, .bool b, l, u]] w base
      (.bool (b && decide (0 ≤ nu) && decide (nu ≤ ver))) := by
  have hbel := (Below.refl base w).alloc hb
  have hbel2 := fun o o' => (hbel o).alloc (Nat.le_trans hb (by simp)) o'
  cases b <;> by_cases h2 : 0 ≤ nu <;> by_cases h3 : nu ≤ ver <;>
  · go_enter Try.func45, Try.ntmps45
    go_wp2
    go_ret
    refine ⟨?_, hbel2 _ _⟩
    simp [h2, h3]

theorem takeCount (n : Nat) : (min (n : Int) 32767).toNat = min n 32767 := by omega
set_option maxHeartbeats 400000 in
theorem spWhole (s : List UInt8) (v : Value) (B : Nat) (w : World) (h : RL B w v s) : Calls Try.prog 38 #[v] w fun e w' => ∃ v', e = .returned v' ∧ RL B w v' (whole s) ∧ w = w' := by
  obtain ⟨a, cap, rfl, h1, h2, h3⟩ := h
  have H := Lib.hid h3
  clear h3
  go_enter Try.func38, Try.ntmps38
  go_wp2
  go_ret
  have hl : (whole s).length = min s.length 32767 := by unfold whole; rw [List.length_take]; omega
  refine ⟨_, rfl, ⟨a, cap, ?_, by omega, h2, fun hne => ?_⟩, rfl⟩
  · rw [hl, ← takeCount]
    rfl
  · have hs : s ≠ [] := by
      intro e
      subst e
      exact hne (by simp [whole])
    obtain ⟨b, o, ha, hb, hc⟩ := H.out hs
    refine ⟨b, o, ha, hb, fun i u hi => hc i u ?_⟩
    unfold whole at hi
    rw [List.getElem?_take] at hi
    split at hi
    · exact hi
    · cases hi

/-- Trees behind a slice's value. -/
def RepL (B : Nat) (w : World) (l : List Tree) (v : Value) : Prop :=
  ∃ (a : Option Addr) (cap : Nat) (f : Nat → List Value), v = .slice a l.length cap ∧ l.length ≤ cap ∧ cap ≤ 9223372036854775807 ∧
    (l ≠ [] → ∃ p q, a = some ⟨p, q, none⟩ ∧ p < B ∧ ∀ i, i < l.length → (f i).length = 5 ∧ ∀ j v, (f i)[j]? = some v → w.cell? ⟨p, q + 5 * i + j, none⟩ = some v) ∧
    ∀ i t, l[i]? = some t → RepT B w (f i) t
theorem RepL.keep {B : Nat} {w w' : World} {l : List Tree} {v : Value} (h : RepL B w l v) (hk : Below B w w') : RepL B w' l v := by
  obtain ⟨a, cap, f, hv, h1, h2, hl, hf⟩ := h
  refine ⟨a, cap, f, hv, h1, h2, fun hne => ?_, fun i t hi => (hf i t hi).keep hk⟩
  obtain ⟨p, q, ha, hp, h⟩ := hl hne
  exact ⟨p, q, ha, hp, fun i hi => ⟨(h i hi).1, fun j v hj => (hk.cell (p := ⟨p, _, none⟩) hp).trans ((h i hi).2 j v hj)⟩⟩
theorem RepT.parts {B : Nat} {w : World} {c : List Value} {t : Tree} (h : RepT B w c t) :
    ∃ sv lv uv, c = [.int .i64 t.n, sv, .bool t.null, lv, uv] ∧ (-9223372036854775808 ≤ t.n ∧ t.n ≤ 9223372036854775807) ∧ RL B w sv t.s ∧ RepL B w t.l lv ∧ RepU B w t.u uv := by
  cases h with
  | mk n s null l u sv uv a cap f hn hs hu hcap hl hf => exact ⟨sv, _, uv, rfl, hn, hs, ⟨a, cap, f, rfl, hcap.1, hcap.2, hl, hf⟩, hu⟩
theorem RepT.ofParts {B : Nat} {w : World} {n : Int} {s : List UInt8} {null : Bool} {l : List Tree} {u : List (Nat × List UInt8)} {sv lv uv : Value}
    (hn : -9223372036854775808 ≤ n ∧ n ≤ 9223372036854775807) (hs : RL B w sv s) (hl : RepL B w l lv) (hu : RepU B w u uv) : RepT B w [.int .i64 n, sv, .bool null, lv, uv] (.mk n s null l u) := by
  obtain ⟨a, cap, f, rfl, h1, h2, h3, h4⟩ := hl
  exact .mk n s null l u sv uv a cap f hn hs hu ⟨h1, h2⟩ h3 h4
theorem RepT.len {B : Nat} {w : World} {c : List Value} {t : Tree} (h : RepT B w c t) : c.length = 5 := by
  obtain ⟨sv, lv, uv, rfl, -⟩ := h.parts
  rfl

set_option maxHeartbeats 400000 in
theorem spThings (l : List Tree) (v : Value) (B : Nat) (w : World) (h : RepL B w l v) : Calls Try.prog 46 #[v] w fun e w' => ∃ v', e = .returned v' ∧ RepL B w (l.take 32767) v' ∧ w = w' := by
  obtain ⟨a, cap, f, rfl, h1, h2, h3, h4⟩ := h
  have H := Lib.hid h3
  have H4 := Lib.hid h4
  clear h3 h4
  go_enter Try.func46, Try.ntmps46
  go_wp2
  go_ret
  have hl : (l.take 32767).length = min l.length 32767 := by rw [List.length_take]; omega
  refine ⟨_, rfl, ⟨a, cap, f, ?_, by omega, h2, fun hne => ?_, fun i t hi => H4.out i t ?_⟩, rfl⟩
  · rw [hl, ← takeCount]
    rfl
  · have hs : l ≠ [] := by
      intro e
      subst e
      exact hne (by simp)
    obtain ⟨p, q, ha, hp, hc⟩ := H.out hs
    exact ⟨p, q, ha, hp, fun i hi => hc i (by omega)⟩
  · rw [List.getElem?_take] at hi
    split at hi
    · exact hi
    · cases hi

theorem Own.fresh (base : Nat) (w : World) (hb : base ≤ w.heap.size) (bs : List UInt8) (hl : bs.length ≤ 9223372036854775807 := by decide) :
    Own base (w.alloc (.cells (bs.map byteV).toArray 5)) (.slice (some ⟨w.heap.size, 0, none⟩) bs.length bs.length) bs := by
  refine ⟨by simp, .inr ⟨w.heap.size, bs.length, _, rfl, hb, heap_alloc_new w _, Nat.le_refl _, hl, by simp, ?_⟩⟩
  show List.take (bs.length * 1) (bs.map byteV) = bs.map byteV
  rw [Nat.mul_one]
  exact List.take_of_length_le (by simp)
theorem Blk.alloc_new2 (w : World) (o : Obj) (c : List Value) (T : Nat) : Blk ((w.alloc o).alloc (.cells c.toArray T)) (w.heap.size + 1) c T := by
  have h := Blk.alloc_new (w.alloc o) c T
  rwa [show (w.alloc o).heap.size = w.heap.size + 1 by simp] at h
theorem treeUnder : ∃ fs, Try.prog.underlying 35 = some (.struct fs) := ⟨_, Try.underlying35⟩
theorem treeSize : (Try.prog.info? 35).map (·.size) = some 5 := by kernel_rfl
theorem ret_tree {f : Nat} {fn : Func} {p : Tmp} {R : Ending → World → Prop} {a : Act} {w : World} {g : Nat} {cs : List Value} (hr : fn.results = #[.cell p 35]) (hp : a.tmps.getD p undef = .pointer (some ⟨g, 0, none⟩))
    (hg : Blk w g cs 35) (hs : cs.length = 5) (hd : a.defers = []) (h : R (.returned (.agg cs.toArray)) w) : bodyPost Try.prog fn R .ret a w := by
  obtain ⟨fs, hu⟩ := treeUnder
  exact bodyPost_ret_by (results_cell_row hr _ _ g _ _ (0, 0) _ hp hg hu rfl (by rw [treeSize]; simp [hs])) hd h

set_option maxRecDepth 100000 in
set_option maxHeartbeats 800000 in
theorem spCounted (flex null : Bool) (n : Nat) (size : Int) (hn : n ≤ 32768) (hs : size = 2 ∨ size = 4) (base : Nat) (w : World) (hb : base ≤ w.heap.size) :
    Gives Try.prog 47 #[.bool flex, .bool null, .int .i64 n, .int .i64 size] w base (counted flex null n size.toNat) := by
  unfold counted
  cases flex <;> cases null
  · rcases hs with rfl | rfl
    · go_enter Try.func47, Try.ntmps47
      go_wp2_with fail
      refine (spFixed2 n base w hb).mono ?_
      rintro e w' ⟨v', rfl, hown, hbel⟩
      go_wp2
      go_ret
      exact .mk hown hbel
    · go_enter Try.func47, Try.ntmps47
      go_wp2_with fail
      refine (spFixed4 n base w hb).mono ?_
      rintro e w' ⟨v', rfl, hown, hbel⟩
      go_wp2
      go_ret
      exact .mk hown hbel
  · rcases hs with rfl | rfl
    · go_enter Try.func47, Try.ntmps47
      go_wp2_with fail
      refine (spFixed2 (-1) base w hb).mono ?_
      rintro e w' ⟨v', rfl, hown, hbel⟩
      go_wp2
      go_ret
      exact .mk hown hbel
    · go_enter Try.func47, Try.ntmps47
      go_wp2_with fail
      refine (spFixed4 (-1) base w hb).mono ?_
      rintro e w' ⟨v', rfl, hown, hbel⟩
      go_wp2
      go_ret
      exact .mk hown hbel
  · go_enter Try.func47, Try.ntmps47
    go_wp2_with fail
    refine (spUvarint (n + 1) (by omega) base w hb).mono ?_
    rintro e w' ⟨v', rfl, hown, hbel⟩
    go_wp2
    go_ret
    exact .mk hown hbel
  · go_enter Try.func47, Try.ntmps47
    go_wp2
    go_ret
    exact .mk (Own.fresh base w hb [0]) ((Below.refl base w).alloc hb _)

set_option maxRecDepth 100000 in
set_option maxHeartbeats 800000 in
theorem spAt (t : Tree) (c : List Value) (i : Nat) (B base : Nat) (w : World) (hB : B ≤ base) (hb : base ≤ w.heap.size) (h : RepT B w c t) (hi : i ≤ 9223372036854775807) :
    Calls Try.prog 33 #[.agg c.toArray, .int .i64 i] w fun e w' => ∃ c', e = .returned (.agg c'.toArray) ∧ RepT B w' c' (atT t i) ∧ Below base w w' := by
  have hbel := (Below.refl base w).alloc hb
  have hbel2 := fun o o' => (hbel o).alloc (Nat.le_trans hb (by simp)) o'
  obtain ⟨sv, lv, uv, rfl, hn, hs, ⟨a, cap, f, rfl, h1, h2, h3, h4⟩, hu⟩ := h.parts
  by_cases hl : i < t.l.length
  · obtain ⟨p, q, rfl, hp, h5⟩ := h3 (by intro e; rw [e] at hl; simp at hl)
    have hget : t.l[i]? = some (t.l[i]) := List.getElem?_eq_getElem hl
    have hat : atT t i = t.l[i] := by simp [atT, hget]
    have hr := h4 i _ hget
    rw [← hat] at hr
    obtain ⟨sv', lv', uv', hc', -, ⟨sa, sc, rfl, -⟩, ⟨la, lc, lf, rfl, -⟩, ⟨ua, uc, rfl, -⟩⟩ := hr.parts
    have h6 := (h5 i hl).2
    rw [hc'] at h6
    have hps : p < w.heap.size := by omega
    have key : ∀ (o o' : Obj) j x, [Value.int .i64 (atT t i).n, .slice sa (atT t i).s.length sc, .bool (atT t i).null, .slice la (atT t i).l.length lc, .slice ua (atT t i).u.length uc][j]? = some x → ((w.alloc o).alloc o').cell? ⟨p, q + i * 5 + j, none⟩ = some x := by
      intro o o' j x hj
      have := h6 j x hj
      rw [Nat.mul_comm 5 i] at this
      exact ((hbel2 o o').cell (p := ⟨p, _, none⟩) (by show p < base; omega)).trans this
    have c0 := fun o o' => key o o' 0 _ rfl
    have c1 := fun o o' => key o o' 1 _ rfl
    have c2 := fun o o' => key o o' 2 _ rfl
    have c3 := fun o o' => key o o' 3 _ rfl
    have c4 := fun o o' => key o o' 4 _ rfl
    simp only [Nat.add_zero] at c0
    have R := Lib.hid (And.intro hr hc')
    clear h3 h4 h5 h6 hr hc' hget hat hs hu hn h key
    go_enter Try.func33, Try.ntmps33
    go_wp2
    refine ret_tree (f := 0) (g := w.heap.size + 1) (cs := [.int .i64 (atT t i).n, .slice sa (atT t i).s.length sc, .bool (atT t i).null, .slice la (atT t i).l.length lc, .slice ua (atT t i).u.length uc]) rfl rfl (.alloc_new2 _ _ _ _) rfl rfl ⟨_, rfl, ?_, hbel2 _ _⟩
    have hr := R.out.1
    rw [R.out.2] at hr
    exact hr.keep ((hbel2 _ _).mono hB)
  · have hat : atT t i = .zero := by simp [atT, List.getElem?_eq_none (by omega : t.l.length ≤ i)]
    rw [hat]
    clear h3 h4 hs hu hn h hat
    go_enter Try.func33, Try.ntmps33
    go_wp2
    exact ret_tree (f := 0) (g := w.heap.size + 1) (cs := [.int .i64 0, .slice none 0 0, .bool false, .slice none 0 0, .slice none 0 0]) rfl rfl (.alloc_new2 _ _ _ _) rfl rfl ⟨_, rfl, RepT.zero _ _, hbel2 _ _⟩
end Go.Proofs.Ytkhpglongkhbjaa
