/- Shared texts of these proofs, laid together by merge.py: Tgd, Tge, Shelg, Tgf, Kt, Leaf, Rs, Rt, Ruu, Rtop, Lw, Rpp, Kra. -/
import Derived.Test.YtolpnfdegjdibaaDoorMe
import Derived.Shelf.GgSortFunc.Tiny
import Derived.Shelf.GgSortFunc.Whole
import Derived.Test.YtolpnfdegjdibaaDoorProg
import Derived.Deep.QuietTactic
import Derived.Lib.SortBridge
import Derived.Sort.LotA
import Derived.Test.YtolpnfdegjdibaaDoorMa
import Derived.Laws.CopyOwn
import Derived.Deep.RegionHeld3
import Derived.StillTail
set_option linter.unusedVariables false
/- Unknown tags: how many there are; one tag, written. -/
namespace Go.Proofs.YtolpnfdegjdibaaDoor
open Go Go.RowKit Go.Maps
set_option linter.unusedVariables false

/-- 'append(dst, a, b, ..)' of bytes: the literal has just been laid. -/
theorem wpl_append_bytesG {P : Program} {w : World} {ops : Array Oper} {rest : List Oper} {o : Oper} {a : Act} {Q : Exit → Act → World → Prop} {t : TypeId} (T : BytesT P t 5) (hgd : o.guard = none) (s x : Operand)
    (ho : o.op = .call { callee := .builtin .append, args := #[s, x], argTypes := #[t, t] }) (base : Nat) (bs : List UInt8) (hown : Own base w (a.eval s) bs) (hb : base ≤ w.heap.size)
    (cs : List Value) (bs' : List UInt8) (hcs : cs = bs'.map byteV) (hx : a.eval x = .slice (some ⟨w.heap.size, 0, none⟩) cs.length cs.length) (hl : bs.length + bs'.length ≤ lim)
    (h : ∀ v' w', Own base w' v' (bs ++ bs') → w.grownBy w' (a.eval s).ownBlock → wpList P ops Q rest (a.put o.dst v') w') : wpList P ops Q (o :: rest) a (w.alloc (.cells cs.toArray 5)) := by
  obtain ⟨i, hi, hz, hs, hby⟩ := T.info
  subst hcs
  rw [List.length_map] at hx
  refine wpl_append_src hgd s x t t ho base 5 i (.int .u8 0) 1 1 T.under hi hz hs hby rfl (a.eval s) bs.length (bs.map byteV) rfl (World.ownsRow.alloc hown _) _ bs'.length (bs'.map byteV) hx
    (Src.ofSlice _ T.under _ _ _ _ (by simp) ?_ ?_) (lim_max hl) (lim_room hl) (by simp; omega) ?_
  · intro j u hj
    rw [Addr.add_lit, (Blk.alloc_new w (bs'.map byteV) _).cell]
    simpa using hj
  · intro u hu
    obtain ⟨_, _, rfl⟩ := List.mem_map.1 hu
    rfl
  · intro v' w' hown' hg _
    refine h v' w' ?_ ?_
    · unfold Own
      simpa using hown'
    · exact ⟨hg.os, hg.tape, hg.output, Nat.le_trans (by simp) hg.size, fun k hk hne => (hg.block k (by simp; omega) hne).trans (Below.heap_alloc w _ k hk)⟩

/-- 'append(dst, src...)' of bytes that lie in memory (or are nil), or of a text. -/
theorem wpl_append_fromG {P : Program} {w : World} {ops : Array Oper} {rest : List Oper} {o : Oper} {a : Act} {Q : Exit → Act → World → Prop} {t tx : TypeId} (T : BytesT P t 5) (hgd : o.guard = none) (s x : Operand)
    (ho : o.op = .call { callee := .builtin .append, args := #[s, x], argTypes := #[t, tx] }) (base : Nat) (bs : List UInt8) (hown : Own base w (a.eval s) bs) (hb : base ≤ w.heap.size)
    (bs' : List UInt8) (hsrc : Src P 1 tx (a.eval x) bs'.length (bs'.map byteV) w) (hl : bs.length + bs'.length ≤ lim)
    (h : ∀ v' w', Own base w' v' (bs ++ bs') → w.grownBy w' (a.eval s).ownBlock → wpList P ops Q rest (a.put o.dst v') w') : wpList P ops Q (o :: rest) a w := by
  obtain ⟨i, hi, hz, hs, hby⟩ := T.info
  refine wpl_append_src hgd s x t tx ho base 5 i (.int .u8 0) 1 1 T.under hi hz hs hby rfl (a.eval s) bs.length (bs.map byteV) rfl hown _ bs'.length (bs'.map byteV) rfl hsrc (lim_max hl) (lim_room hl) hb ?_
  intro v' w' hown' hg _
  refine h v' w' ?_ ?_
  · unfold Own
    simpa using hown'
  · exact hg

/-- Function f appends; but for the bytes' own block nothing has turned. -/
def AppG (P : Program) (f : Nat) (arg : Value) (new : List UInt8) : Prop :=
  ∀ (base : Nat) (w : World) (v : Value) (bs : List UInt8), Own base w v bs → base ≤ w.heap.size → bs.length + new.length ≤ lim → Calls P f #[v, arg] w fun e w' => ∃ v', e = .returned v' ∧ Own base w' v' (bs ++ new) ∧ w.grownBy w' v.ownBlock
set_option maxRecDepth 100000 in
set_option maxHeartbeats 1000000 in
theorem uvG1 (n : Nat) (h0 : 0 ≤ n) (h1 : n ≤ 127) : AppG Tryd.prog 21 (.int .u32 n) (uv n) := by
  intro base w v bs hown hb hl
  have hu : ulen n = 1 := by unfold ulen; split <;> (try split) <;> (try split) <;> (try split) <;> omega
  rw [uv1 (by omega)] at hl ⊢
  go_enter Tryd.func21, Tryd.ntmps21
  go_wp2_with fail
  refine (uvarintLen w n (by omega) (by omega)).mono ?_
  rintro e w' ⟨rfl, rfl⟩
  rw [hu]
  clear hu
  go_wp2_with (at_builtin; refine halted ?_)
  refine wpl_append_bytesG bt rfl _ _ rfl base bs hown hb _ [UInt8.ofNat n] ?_ rfl hl ?_
  · simp only [List.map_cons, List.map_nil, byteV_nat (show n < 256 by omega)]
    all_goals rfl
  intro v' w' hown' hbel
  go_wp2
  go_ret
  exact ⟨_, rfl, hown', hbel⟩
set_option maxRecDepth 100000 in
set_option maxHeartbeats 1000000 in
theorem uvG2 (n : Nat) (h0 : 128 ≤ n) (h1 : n ≤ 16383) : AppG Tryd.prog 21 (.int .u32 n) (uv n) := by
  intro base w v bs hown hb hl
  have hu : ulen n = 2 := by unfold ulen; split <;> (try split) <;> (try split) <;> (try split) <;> omega
  rw [uv2 (by omega) (by omega)] at hl ⊢
  go_enter Tryd.func21, Tryd.ntmps21
  go_wp2_with fail
  refine (uvarintLen w n (by omega) (by omega)).mono ?_
  rintro e w' ⟨rfl, rfl⟩
  rw [hu]
  clear hu
  go_wp2_with (at_builtin; refine halted ?_)
  refine wpl_append_bytesG bt rfl _ _ rfl base bs hown hb _ [UInt8.ofNat (n % 128 + 128), UInt8.ofNat (n / 128)] ?_ rfl hl ?_
  · simp only [List.map_cons, List.map_nil, byteV_nat (show n % 128 + 128 < 256 by omega), byteV_nat (show n / 128 < 256 by omega)]
    rw [show ((n : Int) / 128) = ((n / 128 : Nat) : Int) by omega, seven (n) (by omega)]
  intro v' w' hown' hbel
  go_wp2
  go_ret
  exact ⟨_, rfl, hown', hbel⟩
set_option maxRecDepth 100000 in
set_option maxHeartbeats 1000000 in
theorem uvG3 (n : Nat) (h0 : 16384 ≤ n) (h1 : n ≤ 2097151) : AppG Tryd.prog 21 (.int .u32 n) (uv n) := by
  intro base w v bs hown hb hl
  have hu : ulen n = 3 := by unfold ulen; split <;> (try split) <;> (try split) <;> (try split) <;> omega
  rw [uv3 (by omega) (by omega)] at hl ⊢
  go_enter Tryd.func21, Tryd.ntmps21
  go_wp2_with fail
  refine (uvarintLen w n (by omega) (by omega)).mono ?_
  rintro e w' ⟨rfl, rfl⟩
  rw [hu]
  clear hu
  go_wp2_with (at_builtin; refine halted ?_)
  refine wpl_append_bytesG bt rfl _ _ rfl base bs hown hb _ [UInt8.ofNat (n % 128 + 128), UInt8.ofNat (n / 128 % 128 + 128), UInt8.ofNat (n / 16384)] ?_ rfl hl ?_
  · simp only [List.map_cons, List.map_nil, byteV_nat (show n % 128 + 128 < 256 by omega), byteV_nat (show n / 128 % 128 + 128 < 256 by omega), byteV_nat (show n / 16384 < 256 by omega)]
    rw [show ((n : Int) / 128) = ((n / 128 : Nat) : Int) by omega, show ((n : Int) / 16384) = ((n / 16384 : Nat) : Int) by omega, seven (n) (by omega), seven (n / 128) (by omega)]
  intro v' w' hown' hbel
  go_wp2
  go_ret
  exact ⟨_, rfl, hown', hbel⟩
set_option maxRecDepth 100000 in
set_option maxHeartbeats 1000000 in
theorem uvG4 (n : Nat) (h0 : 2097152 ≤ n) (h1 : n ≤ 268435455) : AppG Tryd.prog 21 (.int .u32 n) (uv n) := by
  intro base w v bs hown hb hl
  have hu : ulen n = 4 := by unfold ulen; split <;> (try split) <;> (try split) <;> (try split) <;> omega
  rw [uv4 (by omega) (by omega)] at hl ⊢
  go_enter Tryd.func21, Tryd.ntmps21
  go_wp2_with fail
  refine (uvarintLen w n (by omega) (by omega)).mono ?_
  rintro e w' ⟨rfl, rfl⟩
  rw [hu]
  clear hu
  go_wp2_with (at_builtin; refine halted ?_)
  refine wpl_append_bytesG bt rfl _ _ rfl base bs hown hb _ [UInt8.ofNat (n % 128 + 128), UInt8.ofNat (n / 128 % 128 + 128), UInt8.ofNat (n / 16384 % 128 + 128), UInt8.ofNat (n / 2097152)] ?_ rfl hl ?_
  · simp only [List.map_cons, List.map_nil, byteV_nat (show n % 128 + 128 < 256 by omega), byteV_nat (show n / 128 % 128 + 128 < 256 by omega), byteV_nat (show n / 16384 % 128 + 128 < 256 by omega), byteV_nat (show n / 2097152 < 256 by omega)]
    rw [show ((n : Int) / 128) = ((n / 128 : Nat) : Int) by omega, show ((n : Int) / 16384) = ((n / 16384 : Nat) : Int) by omega, show ((n : Int) / 2097152) = ((n / 2097152 : Nat) : Int) by omega, seven (n) (by omega), seven (n / 128) (by omega), seven (n / 16384) (by omega)]
  intro v' w' hown' hbel
  go_wp2
  go_ret
  exact ⟨_, rfl, hown', hbel⟩
set_option maxRecDepth 100000 in
set_option maxHeartbeats 1000000 in
theorem uvG5 (n : Nat) (h0 : 268435456 ≤ n) (h1 : n ≤ 4294967295) : AppG Tryd.prog 21 (.int .u32 n) (uv n) := by
  intro base w v bs hown hb hl
  have hu : ulen n = 5 := by unfold ulen; split <;> (try split) <;> (try split) <;> (try split) <;> omega
  rw [uv5 (by omega) (by omega)] at hl ⊢
  go_enter Tryd.func21, Tryd.ntmps21
  go_wp2_with fail
  refine (uvarintLen w n (by omega) (by omega)).mono ?_
  rintro e w' ⟨rfl, rfl⟩
  rw [hu]
  clear hu
  go_wp2_with (at_builtin; refine halted ?_)
  refine wpl_append_bytesG bt rfl _ _ rfl base bs hown hb _ [UInt8.ofNat (n % 128 + 128), UInt8.ofNat (n / 128 % 128 + 128), UInt8.ofNat (n / 16384 % 128 + 128), UInt8.ofNat (n / 2097152 % 128 + 128), UInt8.ofNat (n / 268435456)] ?_ rfl hl ?_
  · simp only [List.map_cons, List.map_nil, byteV_nat (show n % 128 + 128 < 256 by omega), byteV_nat (show n / 128 % 128 + 128 < 256 by omega), byteV_nat (show n / 16384 % 128 + 128 < 256 by omega), byteV_nat (show n / 2097152 % 128 + 128 < 256 by omega), byteV_nat (show n / 268435456 < 256 by omega)]
    rw [show ((n : Int) / 128) = ((n / 128 : Nat) : Int) by omega, show ((n : Int) / 16384) = ((n / 16384 : Nat) : Int) by omega, show ((n : Int) / 2097152) = ((n / 2097152 : Nat) : Int) by omega, show ((n : Int) / 268435456) = ((n / 268435456 : Nat) : Int) by omega, seven (n) (by omega), seven (n / 128) (by omega), seven (n / 16384) (by omega), seven (n / 2097152) (by omega)]
  intro v' w' hown' hbel
  go_wp2
  go_ret
  exact ⟨_, rfl, hown', hbel⟩
theorem uvG (n : Nat) (h : n ≤ 4294967295) : AppG Tryd.prog 21 (.int .u32 n) (uv n) := by
  by_cases h1 : n ≤ 127
  · exact uvG1 n (by omega) h1
  by_cases h2 : n ≤ 16383
  · exact uvG2 n (by omega) h2
  by_cases h3 : n ≤ 2097151
  · exact uvG3 n (by omega) h3
  by_cases h4 : n ≤ 268435455
  · exact uvG4 n (by omega) h4
  · exact uvG5 n (by omega) h

/-- What stands in a block of w that holds no octets stands in w', too. -/
structure Turn (q : Nat) (w w' : World) : Prop where
  os : w'.os = w.os
  tape : w'.tape = w.tape
  output : w'.output = w.output
  size : w.heap.size ≤ w'.heap.size
  block : ∀ b, b < w.heap.size → b ≠ q → (∀ cur fr, w.heap[b]? ≠ some (.cells cur 5 fr)) → w'.heap[b]? = w.heap[b]?
theorem Turn.refl (q : Nat) (w : World) : Turn q w w := ⟨rfl, rfl, rfl, Nat.le_refl _, fun _ _ _ _ => rfl⟩
theorem Turn.trans {q : Nat} {a b c : World} (h : Turn q a b) (k : Turn q b c) : Turn q a c :=
  ⟨k.os.trans h.os, k.tape.trans h.tape, k.output.trans h.output, Nat.le_trans h.size k.size, fun i hi hq hn => by
    have e := h.block i hi hq hn
    exact (k.block i (Nat.lt_of_lt_of_le hi h.size) hq (fun cur fr => by rw [e]; exact hn cur fr)).trans e⟩
theorem Turn.setCell {q : Nat} {a b : World} (h : Turn q a b) (i : Nat) (x : Value) : Turn q a (b.setCell ⟨q, i, none⟩ x) :=
  h.trans ⟨rfl, rfl, rfl, by simp [World.setCell], fun k _ hk _ => Below.heap_setCell _ _ _ _ (fun e => hk (by first | exact e | exact e.symm))⟩
theorem Turn.grown {q base : Nat} {w w' : World} {v : Value} {bs : List UInt8} (hown : Own base w v bs) (hg : w.grownBy w' v.ownBlock) : Turn q w w' :=
  ⟨hg.os, hg.tape, hg.output, hg.size, fun b hb _ hn => hg.block b hb (fun e => by
    rcases hown.2 with ⟨rfl, -⟩ | ⟨g, cap, cur, rfl, -, hgg, -⟩
    · cases e
    · cases e; exact hn _ _ hgg)⟩
theorem Own.below_grown {base B : Nat} {w w' : World} {v : Value} {bs : List UInt8} (hown : Own base w v bs) (hB : B ≤ base) (hb : B ≤ w.heap.size) (hg : w.grownBy w' v.ownBlock) : Below B w w' :=
  (Below.refl _ _).grown hg hb (fun k hk => by have := (hown.lt k hk).1; omega)
set_option maxHeartbeats 1000000 in
theorem tagsLen {w0 w : World} {b o : Nat} {l : List (Nat × List UInt8)} (h : TagMem [] w0 b o l) (hb : Below w0.heap.size w0 w) : Calls Tryd.prog 22 #[.pointer (some ⟨b, o, none⟩)] w fun e w' => e = .returned (.int .i64 l.length) ∧ w = w' := by
  obtain ⟨m, n, D, hc, hm, hn, hv, -, -⟩ := h
  have m0 : w.cell? ⟨b, o, none⟩ = some (.map m) := (hb.cell (p := ⟨b, o, none⟩) (World.block_lt_of_cell? w0 _ hc)).trans hc
  have hsz := hv.size
  cases m with
  | none =>
    cases hm
    have hl : l.length = 0 := by rw [← hsz]; rfl
    clear hc hn hv hsz
    rw [hl]
    go_enter Tryd.func22, Tryd.ntmps22
    go_wp2
    go_ret
    exact ⟨rfl, rfl⟩
  | some g =>
    have hown : w.ownsMap Tryd.prog 62 R0 g n D := ownsMap_block hm (hb.block g (World.ownsMap.lt hm))
    rw [← hsz]
    clear hc hn hv hsz hm
    go_enter Tryd.func22, Tryd.ntmps22
    go_wp2_with (first
      | (at_len; refine wpList_len_own _ rfl _ 40 rfl 62 22 Tryd.underlying40 _ g n D rfl hown ?_)
      | go_in)
    go_ret
    exact ⟨rfl, rfl⟩
theorem own_shape {base : Nat} {w : World} {v : Value} {bs : List UInt8} (h : Own base w v bs) : ∃ a c, v = .slice a bs.length c := by
  rcases h.2 with ⟨rfl, hn⟩ | ⟨g, cap, cur, rfl, -⟩
  · exact ⟨none, 0, by rw [hn]⟩
  · exact ⟨_, _, rfl⟩
/-- One tag, appended to the bytes in cell q. -/
def TagPut (w0 : World) (q : Nat) (bs : List UInt8) (w : World) (e : Ending) (w' : World) : Prop := e = .returned (.tuple #[]) ∧ ∃ x', Blk w' q [x'] 22 ∧ Own w0.heap.size w' x' bs ∧ Turn q w w' ∧ Below w0.heap.size w0 w'
theorem own_set {base q i T : Nat} {w : World} {v : Value} {c : List Value} {bs : List UInt8} (h : Own base w v bs) (hB : Blk w q c T) (hT : T ≠ 5) (u : Value) : Own base (w.setCell ⟨q, i, none⟩ u) v bs := by
  refine ⟨h.1, ?_⟩
  rcases h.2 with hn | ⟨g, cap, cur, rfl, h1, h2, h3⟩
  · exact .inl hn
  · refine .inr ⟨g, cap, cur, rfl, h1, ?_, h3⟩
    rw [Below.heap_setCell _ _ _ _ (fun e => ?_)]
    · exact h2
    · subst e
      unfold Blk at hB
      rw [h2] at hB
      simp at hB
      exact hT hB.2.symm
theorem blk_grown {base q T : Nat} {w w' : World} {v : Value} {c : List Value} {bs : List UInt8} (hown : Own base w v bs) (hg : w.grownBy w' v.ownBlock) (hB : Blk w q c T) (hT : T ≠ 5) : Blk w' q c T := by
  refine (hg.block q hB.lt (fun e => ?_)).trans hB
  rcases hown.2 with ⟨rfl, -⟩ | ⟨g, cap, cur, rfl, -, hgg, -⟩
  · cases e
  · cases e
    unfold Blk at hB
    rw [hgg] at hB
    simp at hB
    exact hT hB.2.symm
set_option maxHeartbeats 2000000 in
theorem tagPut {w0 w : World} {q k : Nat} {x v : Value} {bs val : List UInt8} (hB : Below w0.heap.size w0 w) (hv : RB [] w0 v val) (hq : w0.heap.size ≤ q) (hblk : Blk w q [x] 22) (hown : Own w0.heap.size w x bs) (hk : k ≤ 4294967295) (hval : val.length ≤ 4294967295) (hl : bs.length + (apTags [(k, val)]).length ≤ lim) :
    Calls Tryd.prog 54 #[.int .u32 (k : Nat), v, .pointer (some ⟨q, 0, none⟩)] w (TagPut w0 q (bs ++ apTags [(k, val)]) w) := by
  have e0 : apTags [(k, val)] = uv k ++ uv val.length ++ val := by simp [apTags]
  rw [e0] at hl ⊢
  simp only [List.length_append] at hl
  have hbs := hB.size
  obtain ⟨sad, scap, rfl, -⟩ : ∃ a cap, v = .slice a val.length cap ∧ True := by obtain ⟨a, cap, h, -⟩ := hv; exact ⟨a, cap, h, trivial⟩
  have m0 := hblk.cell_some (i := 0) rfl
  have f0 := hblk.frozen 0
  have C1 := Lib.hid (uvG k hk w0.heap.size w x bs hown hbs (by omega))
  have X0 := Lib.hid (And.intro hB (And.intro hblk (And.intro hown (And.intro hv (And.intro hbs (And.intro hl hval))))))
  clear hB hown hv hbs hl hblk hval
  have hz0 : (0 : Int) ≤ (val.length : Nat) := by omega
  have hz1 : ((val.length : Nat) : Int) ≤ 4294967295 := by have := X0.out.2.2.2.2.2.2; omega
  go_enter Tryd.func54, Tryd.ntmps54
  go_wp2_with fail
  refine C1.out.mono ?_
  rintro e w1 ⟨x1, rfl, o1, g1⟩
  obtain ⟨ya, yc, hx1⟩ := own_shape o1
  generalize (bs ++ uv k).length = yn at hx1
  subst hx1
  have b1 := blk_grown X0.out.2.2.1 g1 X0.out.2.1 (by decide)
  have m1 := b1.cell_some (i := 0) rfl
  have f1 := b1.frozen 0
  have o1' := own_set (i := 0) o1 b1 (by decide) (.slice ya yn yc)
  have b1' := b1.set 0 (.slice ya yn yc)
  have hs1 : w0.heap.size ≤ (w1.setCell ⟨q, 0, none⟩ (.slice ya yn yc)).heap.size := by have := g1.size; have := X0.out.2.2.2.2.1; simp [World.setCell]; omega
  have C2 := Lib.hid (uvG val.length (by omega) w0.heap.size _ _ (bs ++ uv k) o1' hs1 (by have := X0.out.2.2.2.2.2.1; simp only [List.length_append]; omega))
  have X1 := Lib.hid (And.intro o1 (And.intro g1 (And.intro b1 (And.intro o1' (And.intro b1' hs1)))))
  clear C1 o1 g1 b1 o1' b1' hs1 m0 f0
  go_wp2_with fail
  refine C2.out.mono ?_
  rintro e w2 ⟨x2, rfl, o2, g2⟩
  obtain ⟨za, zc, hx2⟩ := own_shape o2
  generalize (bs ++ uv k ++ uv val.length).length = zn at hx2
  subst hx2
  have b2 := blk_grown X1.out.2.2.2.1 g2 X1.out.2.2.2.2.1 (by decide)
  have m2 := b2.cell_some (i := 0) rfl
  have f2 := b2.frozen 0
  have o2' := own_set (i := 0) o2 b2 (by decide) (.slice za zn zc)
  have hs2 : w0.heap.size ≤ (w2.setCell ⟨q, 0, none⟩ (.slice za zn zc)).heap.size := by have := g2.size; have := X1.out.2.2.2.2.2; simp [World.setCell] at *; omega
  have bel1 : Below w0.heap.size w0 (w1.setCell ⟨q, 0, none⟩ (.slice ya yn yc)) := (X0.out.1.trans (Own.below_grown X0.out.2.2.1 (Nat.le_refl _) X0.out.2.2.2.2.1 X1.out.2.1)).setCell hq _
  have bel2 : Below w0.heap.size w0 (w2.setCell ⟨q, 0, none⟩ (.slice za zn zc)) := (bel1.trans (Own.below_grown X1.out.2.2.2.1 (Nat.le_refl _) X1.out.2.2.2.2.2 g2)).setCell hq _
  have hv2 : RB [] (w2.setCell ⟨q, 0, none⟩ (.slice za zn zc)) (.slice sad val.length scap) val := X0.out.2.2.2.1.keeps (Keeps.of_below bel2 (Nat.le_refl _))
  have X2 := Lib.hid (And.intro o2' (And.intro hs2 (And.intro bel2 (And.intro hv2 (And.intro b2 (And.intro g2 (b2.set 0 (.slice za zn zc))))))))
  clear C2 o2 g2 b2 o2' hs2 bel1 bel2 hv2 m1 f1
  go_wp2_with (at_builtin; refine halted ?_)
  refine wpl_append_fromG bt rfl _ _ rfl w0.heap.size (bs ++ uv k ++ uv val.length) X2.out.1 X2.out.2.1 val (Src.ofRB Tryd.underlying22 X2.out.2.2.2.1) (by have := X0.out.2.2.2.2.2.1; simp only [List.length_append]; omega) ?_
  intro x3 w3 o3 g3
  obtain ⟨ta, tc, hx3⟩ := own_shape o3
  generalize (bs ++ uv k ++ uv val.length ++ val).length = tn at hx3
  subst hx3
  have b3 := blk_grown X2.out.1 g3 X2.out.2.2.2.2.2.2 (by decide)
  have m3 := b3.cell_some (i := 0) rfl
  have f3 := b3.frozen 0
  have X3 := Lib.hid (And.intro o3 (And.intro g3 b3))
  clear o3 g3 b3 m2 f2
  go_wp2
  go_end0
  refine ⟨rfl, .slice ta tn tc, X3.out.2.2.set 0 _, ?_, ?_, ?_⟩
  · have h := own_set (i := 0) X3.out.1 X3.out.2.2 (by decide) (.slice ta tn tc)
    simpa only [List.append_assoc] using h
  · exact ((((Turn.grown X0.out.2.2.1 X1.out.2.1).setCell 0 _).trans (Turn.grown X1.out.2.2.2.1 X2.out.2.2.2.2.2.1)).setCell 0 _).trans (Turn.grown X2.out.1 X3.out.2.1) |>.setCell 0 _
  · exact (X2.out.2.2.1.trans (Own.below_grown X2.out.1 (Nat.le_refl _) X2.out.2.1 X3.out.2.1)).setCell hq _
end Go.Proofs.YtolpnfdegjdibaaDoor

/- Unknown tags: all, written. -/
namespace Go.Proofs.YtolpnfdegjdibaaDoor
open Go Go.RowKit Go.Maps
set_option linter.unusedVariables false

theorem u32Info : (Tryd.prog.info? 62).map (fun i => (i.zero, i.size, i.bytes)) = some (some (.int .u32 0), 1, 4) := by kernel_rfl
abbrev encK (k : Nat) : Value := .int .u32 (k : Nat)
/-- What is asked of sort.Slice. -/
def SortSpec : Prop := ∀ (w : World) (z c p : Nat) (ks : List Nat) (cur : Array Value), w.heap[z]? = some (.cells cur 62 (0, 0)) → cur.toList.take ks.length = ks.map encK → Blk w p [.slice (some ⟨z, 0, none⟩) ks.length c] 63 → ks.length < 4294967296 →
  Calls Tryd.prog 62 #[.iface 63 (.slice (some ⟨z, 0, none⟩) ks.length c), .func (.func 63) #[] #[.pointer (some ⟨p, 0, none⟩)]] w fun e w' =>
    e = .returned (.tuple #[]) ∧ ∃ (ks' : List Nat) (cur' : Array Value), ks'.Perm ks ∧ ks'.Pairwise (· ≤ ·) ∧ w'.heap[z]? = some (.cells cur' 62 (0, 0)) ∧ cur'.toList.take ks.length = ks'.map encK ∧ w.grownBy w' (some z)
def EachPost (w0 w : World) (q : Nat) (bs : List UInt8) (e : Ending) (w' : World) : Prop := e = .returned (.tuple #[]) ∧ ∃ x', Blk w' q [x'] 22 ∧ Own w0.heap.size w' x' bs ∧ Below w0.heap.size w w'
/-- The keys that were met so far. -/
def Coll (D : VD) (left : Lit → Bool) (ss : List Nat) : Prop := ss.Nodup ∧ ∀ k, k ∈ ss ↔ (Maps.has D (kl32 k) = true ∧ left (kl32 k) = false)
theorem Coll.start (D : VD) : Coll D (Maps.has D) [] := ⟨List.nodup_nil, fun x => by cases Maps.has D (kl32 x) <;> simp⟩
theorem Coll.step {D : VD} {left : Lit → Bool} {ss : List Nat} (h : Coll D left ss) {x : Nat} {y : VD} (hlk : left (kl32 x) = true) (hat : ∀ zd, D.atKey (kl32 x) zd = y) : Coll D (fun z => left z && !z.sameKey (kl32 x)) (ss ++ [x]) := by
  have hhas : Maps.has D (kl32 x) = true := has_true_of_atKey hat
  have hnew : x ∉ ss := fun hx => by have := ((h.2 x).1 hx).2; rw [hlk] at this; cases this
  refine ⟨List.nodup_append.2 ⟨h.1, by simp, fun a ha b hb => by simp at hb; subst hb; exact fun e => hnew (e ▸ ha)⟩, fun y => ?_⟩
  by_cases hy : y = x
  · subst hy
    have : (kl32 y).sameKey (kl32 y) = true := WideAt.sameKey_self (kl32_key y)
    simp [hhas, this]
  · have : (kl32 y).sameKey (kl32 x) = false := Maps.sameKey_ne fun e => hy (kl32_inj.1 e)
    simp [h.2 y, hy, this]
theorem Coll.sorted {D : VD} {left : Lit → Bool} {ss ks : List Nat} {O : List Nat} {w : World} {l : List (Nat × List UInt8)} (h : Coll D left ss) (hl : ∀ kl, left kl = false) (hv : View O w D l) (hp : ks.Perm ss) (hs : ks.Pairwise (· ≤ ·)) : ks = l.map (·.1) := by
  have hpl : ss.Perm (l.map (·.1)) := by
    refine (List.perm_ext_iff_of_nodup h.1 ?_).2 fun k => ?_
    · exact List.pairwise_map.2 (hv.sorted.imp fun {p q} hlt => by omega)
    · rw [h.2 k, hl]
      simp only [and_true, List.mem_map]
      constructor
      · intro hh
        obtain ⟨k', bs', e, hm⟩ := hv.only _ hh
        exact ⟨_, hm, (kl32_inj.1 e).symm⟩
      · rintro ⟨⟨k', bs'⟩, hm, rfl⟩
        exact (hv.there _ _ hm).1
  refine List.Perm.eq_of_pairwise (le := (· ≤ ·)) (fun a b _ _ h1 h2 => Nat.le_antisymm h1 h2) hs ?_ (hp.trans hpl)
  exact List.pairwise_map.2 (hv.sorted.imp fun {p q} hlt => by omega)
/-- The first loop, behind some rounds. -/
structure EInv (g p4 r n H : Nat) (D : VD) (L : Nat) (w wr : World) (left : Lit → Bool) (cnt : Nat) (ss : List Nat) (a : Option Addr) (c : Nat) : Prop where
  hrg : wr.ranges Tryd.prog 62 R0 g r n D left cnt
  le : ss.length + cnt ≤ L
  box : Blk wr p4 [.slice a ss.length c] 63
  row : wr.ownsRow H 62 1 (.slice a ss.length c) ss.length (ss.map encK)
  nn : a ≠ none
  coll : Coll D left ss
  below : Below H w wr
/-- The second loop. -/
structure EInv2 (q z H : Nat) (l : List (Nat × List UInt8)) (bs : List UInt8) (cur : Array Value) (w0 w wr : World) (k : Nat) (v x : Value) : Prop where
  le : k ≤ l.length
  val : v = .int .i64 (k : Nat)
  blk : Blk wr q [x] 22
  own : Own w0.heap.size wr x (bs ++ apTags (l.take k))
  below : Below w0.heap.size w wr
  row : wr.heap[z]? = some (.cells cur 62 (0, 0))
theorem apTags_snoc (l : List (Nat × List UInt8)) (k : Nat) (t : Nat × List UInt8) (h : l[k]? = some t) : apTags (l.take (k + 1)) = apTags (l.take k) ++ apTags [t] := by
  rw [List.take_add_one, h]
  simp [apTags]
theorem apTags_take (l : List (Nat × List UInt8)) (k : Nat) : (apTags (l.take k)).length ≤ (apTags l).length := by
  have e : apTags l = apTags (l.take k) ++ apTags (l.drop k) := by
    unfold apTags
    rw [← List.flatMap_append, List.take_append_drop]
  rw [e, List.length_append]
  omega
theorem row_block {w : World} {base e n : Nat} {v : Value} {xs : List Value} {k : Nat} (h : w.ownsRow base e 1 v n xs) (hk : v.ownBlock = some k) : ∃ cur, w.heap[k]? = some (.cells cur e (0, 0)) ∧ base ≤ k := by
  rcases h.2 with ⟨rfl, -⟩ | ⟨g, cap, cur, rfl, h1, h2, -⟩
  · cases hk
  · cases hk; exact ⟨cur, h2, h1⟩
theorem iter_ne {w : World} {base e n m b r : Nat} {v : Value} {xs : List Value} {D : VD} {left : Lit → Bool} {cnt : Nat} {P : Program} {k : TypeId} {R : Value → Option (VD × List MemPlace)} (h : w.ownsRow base e 1 v n xs) (hr : w.ranges P k R b r m D left cnt) : v.ownBlock ≠ some r := fun he => by
  obtain ⟨cur, h1, -⟩ := row_block h he
  obtain ⟨_, _, _, _, _, _, _, _, _, hit, _⟩ := hr
  rw [h1] at hit
  cases hit
theorem map_ne {w : World} {base e n m b : Nat} {v : Value} {xs : List Value} {D : VD} {P : Program} {k : TypeId} {R : Value → Option (VD × List MemPlace)} (h : w.ownsRow base e 1 v n xs) (hr : w.ownsMap P k R b m D) : v.ownBlock ≠ some b := fun he => by
  obtain ⟨cur, h1, -⟩ := row_block h he
  obtain ⟨_, _, hit, _⟩ := hr
  rw [h1] at hit
  cases hit
theorem blk_ne {w : World} {base e n p T : Nat} {v : Value} {xs c : List Value} (h : w.ownsRow base e 1 v n xs) (hB : Blk w p c T) (hT : T ≠ e) : v.ownBlock ≠ some p := fun he => by
  obtain ⟨cur, h1, -⟩ := row_block h he
  unfold Blk at hB
  rw [h1] at hB
  simp at hB
  exact hT hB.2.symm
theorem keyK {key : Value} {kl : Lit} (h : keyOf Tryd.prog 62 key = some kl) : ∃ x : Nat, key = encK x ∧ kl = kl32 x ∧ x ≤ 4294967295 := by
  obtain ⟨x, rfl, rfl, hw⟩ := Maps.keyOf_int_inv Tryd.underlying62 h
  unfold Lit.wf at hw
  simp [IntKind.min, IntKind.max, IntKind.bits, IntKind.signed] at hw
  have hx : ((x.toNat : Nat) : Int) = x := Int.toNat_of_nonneg hw.1
  refine ⟨x.toNat, ?_, ?_, by omega⟩
  · unfold encK; rw [hx]
  · unfold kl32; rw [hx]
theorem encK_inj {a b : Nat} (h : encK a = encK b) : a = b := by
  unfold encK at h
  simp at h
  omega
theorem grown_setCell (w : World) (p i : Nat) (u : Value) : w.grownBy (w.setCell ⟨p, i, none⟩ u) (some p) :=
  ⟨rfl, rfl, rfl, by simp [World.setCell], fun k _ hk => Below.heap_setCell _ _ _ _ (fun e => hk (by first | exact congrArg some e | exact congrArg some e.symm))⟩
theorem row_shape {w : World} {base e n : Nat} {v : Value} {xs : List Value} (h : w.ownsRow base e 1 v n xs) (hn : v ≠ .slice none 0 0) : ∃ a c, v = .slice a n c ∧ a ≠ none := by
  rcases h.2 with ⟨rfl, -⟩ | ⟨g, cap, cur, rfl, -⟩
  · exact absurd rfl hn
  · exact ⟨_, _, rfl, by simp⟩
theorem zeroBytes (w : World) : (zeroValue 22).run Tryd.prog w = .ok (.slice none 0 0) w := by kernel_rfl
set_option maxRecDepth 100000 in
set_option maxHeartbeats 2000000 in
theorem tagsEach (hS : SortSpec) {w0 w : World} {b o q : Nat} {x : Value} {bs : List UInt8} {l : List (Nat × List UInt8)} (h : TagMem [] w0 b o l) (hB : Below w0.heap.size w0 w) (hq : w0.heap.size ≤ q) (hblk : Blk w q [x] 22) (hown : Own w0.heap.size w x bs) (hl : bs.length + (apTags l).length ≤ lim) :
    Calls Tryd.prog 53 #[.pointer (some ⟨b, o, none⟩), .func (.func 54) #[] #[.pointer (some ⟨q, 0, none⟩)]] w (EachPost w0 w q (bs ++ apTags l)) := by
  obtain ⟨m, n, D, hc, hm, hn, hv, -, hl6, hl7⟩ := h
  have m0 : w.cell? ⟨b, o, none⟩ = some (.map m) := (hB.cell (p := ⟨b, o, none⟩) (World.block_lt_of_cell? w0 _ hc)).trans hc
  have hsz := hv.size
  cases m with
  | none =>
    cases hm
    have hl0 : l = [] := List.eq_nil_of_length_eq_zero (by rw [← hsz]; rfl)
    subst hl0
    have hE : EachPost w0 w q (bs ++ apTags []) (.returned (.tuple #[])) w := ⟨rfl, x, hblk, by simpa [apTags] using hown, Below.refl _ _⟩
    have HE := Lib.hid hE
    clear hc hn hv hsz hB hblk hown hE hl6 hl7 hl
    go_enter Tryd.func53, Tryd.ntmps53
    go_wp2
    go_end0
    exact HE.out
  | some g =>
    have hm' : w0.ownsMap Tryd.prog 62 R0 g n D := hm
    have hgl := World.ownsMap.lt hm'
    have hown1 : w.ownsMap Tryd.prog 62 R0 g n D := ownsMap_block hm' (hB.block g hgl)
    by_cases hl0 : l = []
    · subst hl0
      have hE : EachPost w0 w q (bs ++ apTags []) (.returned (.tuple #[])) w := ⟨rfl, x, hblk, by simpa [apTags] using hown, Below.refl _ _⟩
      have HE := Lib.hid hE
      have hz : Maps.size D = 0 := hsz
      clear hc hn hv hsz hB hblk hown hE hl6 hl7 hl hm hm'
      go_enter Tryd.func53, Tryd.ntmps53
      go_wp2_with (first
        | (at_len; refine wpList_len_own _ rfl _ 40 rfl 62 22 Tryd.underlying40 _ g n D rfl hown1 ?_; rw [hz])
        | go_in)
      go_end0
      exact HE.out
    · have hlen : 0 < l.length := List.length_pos_iff.2 hl0
      obtain ⟨i0, hi, hz0, hz1, hz2⟩ := info_parts u32Info
      have hlz : ((l.length : Nat) : Int) ≠ 0 := by omega
      have hmax : l.length ≤ maxLen := by unfold maxLen; omega
      have hby : i0.bytes * l.length ≤ 281474976710656 := by rw [hz2]; omega
      have hqlt := hblk.lt
      have X := Lib.hid (And.intro hc (And.intro hm' (And.intro hn (And.intro hv (And.intro hsz (And.intro hB (And.intro hblk (And.intro hown (And.intro hl (And.intro hl6 (And.intro hl7 (And.intro hgl hlen))))))))))))
      clear hc hm hm' hn hv hB hblk hown hl hl6 hl7
      have hgw : g < w.heap.size := hown1.lt
      have I := Lib.hid (And.intro hi (And.intro hz0 (And.intro hz1 (And.intro hz2 (And.intro hby (And.intro hmax (And.intro hown1 (And.intro hgw hqlt))))))))
      clear hi hz0 hz1 hz2 hby hmax hown1 hgw hqlt
      have hsz' := Lib.hid hsz
      clear hsz
      go_enter Tryd.func53, Tryd.ntmps53
      go_wp2_with (first
        | (at_len; refine wpList_len_own _ rfl _ 40 rfl 62 22 Tryd.underlying40 _ g n D rfl I.out.2.2.2.2.2.2.1 ?_; rw [hsz'.out])
        | (at_make; refine wpList_make_own _ rfl _ _ 63 rfl w.heap.size 62 i0 (.int .u32 0) 1 Tryd.underlying63 I.out.1 I.out.2.1 I.out.2.2.1 _ _ _ l.length rfl rfl rfl I.out.2.2.2.2.1 I.out.2.2.2.2.2.1 (Nat.le_refl _) ?_; intro w1 hrow1 hg1; have m1 : w1.cell? ⟨b, o, none⟩ = some (.map (some g)) := hg1.cell m0 (by simp); have m1' : ∀ ob, (w1.alloc ob).cell? ⟨b, o, none⟩ = some (.map (some g)) := fun ob => (World.cell?_of_block (Below.heap_alloc w1 ob _ (World.block_lt_of_cell? w1 _ m1))).trans m1)
        | (at_range; refine wpList_range_own _ rfl _ 40 rfl 62 22 tagKeyed Tryd.underlying40 _ g n D rfl ((I.out.2.2.2.2.2.2.1.kept hg1 (by simp)).alloc _) ?_; intro w2 hrg2 hg2 hs2)
        | go_in)
      try go_frame
      generalize hr : (w1.alloc (.cells #[.slice (some ⟨w.heap.size, 0, none⟩) 0 l.length] 63)).heap.size = r at *
      have k01 : Keeps [] w w1 := (Keeps.refl [] w).grown hg1 (fun k hk => by cases hk)
      have k12 : Keeps [] w1 w2 := ((Keeps.refl [] w1).alloc _).grown hg2 (fun k hk => by cases hk)
      have p4 : Blk w2 w1.heap.size [.slice (some ⟨w.heap.size, 0, none⟩) 0 l.length] 63 := (hg2.block w1.heap.size (by simp) (by simp)).trans (heap_alloc_new w1 _)
      have hrow2 : w2.ownsRow w.heap.size 62 1 (.slice (some ⟨w.heap.size, 0, none⟩) 0 l.length) 0 [] := (hrow1.alloc _).kept hg2 (.inr (by simp [Value.ownBlock]))
      have hbel2 : Below w.heap.size w w2 := (Keeps.trans k01 k12).below (Nat.le_refl _) (by simp)
      have hI0 : EInv g w1.heap.size r n w.heap.size D l.length w w2 (Maps.has D) (Maps.size D) [] (some ⟨w.heap.size, 0, none⟩) l.length := ⟨hrg2, by rw [hsz'.out]; simp, p4, hrow2, by simp, Coll.start D, hbel2⟩
      have hrr : r = w1.heap.size + 1 := by rw [← hr]; simp
      have RR := Lib.hid (And.intro hg1.size hrr)
      clear hr hrr
      have HI0 := Lib.hid hI0
      have K1 := Lib.hid k01
      clear hrow1 hg1 m1 m1' hrg2 hg2 hs2 k12 p4 hrow2 hbel2 hI0 k01
      go_loopw [] (fun wr => ∃ left cnt ss a c, EInv g w1.heap.size r n w.heap.size D l.length w wr left cnt ss a c) (fun wr => wr.rangeLeft g r)
      case atStart => exact ⟨_, _, _, _, _, HI0.out⟩
      case round =>
        obtain ⟨left, cnt, ss, a, c, hI⟩ := hrel
        have HR := Lib.hid hI
        clear hI HI0
        go_wp2_with (first
          | (at_next; refine wpList_next_ranges _ rfl _ rfl 62 tagKeyed R0 encK (fun v : Value => v) (fun key kl hk => by obtain ⟨x, hx, -⟩ := keyK hk; exact ⟨x, hx⟩) (fun v y hv => ⟨v, rfl⟩) g r n _ _ _ rfl HR.out.hrg ?_ ?_)
          | go_in)
        · intro hc0 hl0
          rcases HR.out.row.2 with ⟨hnil, -⟩ | ⟨z, cap, cur, hve, hbase, hb, h1, h2, h3, h4⟩
          · simp at hnil; exact absurd hnil.1 HR.out.nn
          cases hve
          have hC := hS wr z c w1.heap.size ss cur hb (by simpa using h4) HR.out.box (by have := HR.out.le; have := X.out.2.2.2.2.2.2.2.2.2.1; omega)
          have m5 := HR.out.box.cell_some (i := 0) rfl
          have C := Lib.hid hC
          have L0 := Lib.hid (And.intro hl0 (And.intro hbase hb))
          clear hC hl0 hbase hb h1 h2 h3 h4 hc0
          go_wp2_with fail
          refine C.out.mono ?_
          rintro e w5 ⟨rfl, ks', cur', hperm, hsort, hz5, hc5, hg5⟩
          have hk' : ks' = l.map (·.1) := HR.out.coll.sorted L0.out.1 X.out.2.2.2.1 hperm hsort
          have hll : ss.length = l.length := by rw [← hperm.length_eq, hk', List.length_map]
          have pz : w1.heap.size ≠ z := by
            rintro rfl
            have h := HR.out.box
            unfold Blk at h
            rw [L0.out.2.2] at h
            simp at h
          have box5 : Blk w5 w1.heap.size [.slice (some ⟨z, 0, none⟩) ss.length c] 63 := (hg5.block _ HR.out.box.lt (by simpa using pz)).trans HR.out.box
          have m7 := box5.cell_some (i := 0) rfl
          have bel5 : Below w.heap.size w w5 := HR.out.below.grown hg5 HR.out.below.size (fun j hj => by cases hj; exact L0.out.2.1)
          have W := Lib.hid (And.intro hz5 (And.intro hc5 (And.intro bel5 (And.intro hk' hll))))
          clear C hperm hsort hz5 hc5 hg5 hk' pz box5 bel5 m5
          rw [hll] at m7
          clear hll
          go_wp2
          have hJ0 : EInv2 q z w.heap.size l bs cur' w0 w w5 0 (.int .i64 0) x := by
            have hk5 : Keeps [] w w5 := Keeps.of_below W.out.2.2.1 (Nat.le_refl _)
            refine ⟨by omega, rfl, X.out.2.2.2.2.2.2.1.keeps hk5 (by simp), ?_, hk5.below X.out.2.2.2.2.2.1.size (by simp), W.out.1⟩
            have h0 := World.ownsRow.kept (w' := w5) (row := none) X.out.2.2.2.2.2.2.2.1 ⟨hk5.os, hk5.tape, hk5.output, hk5.size, fun k hk _ => hk5.block k hk (by simp)⟩ (by cases x.ownBlock <;> simp)
            simpa [apTags, Own] using h0
          have HJ0 := Lib.hid hJ0
          clear hJ0
          go_loopw [39] (fun v wr => ∃ k x', EInv2 q z w.heap.size l bs cur' w0 w wr k v x') (fun v _ => l.length - numOf v)
          case atStart => exact ⟨0, x, HJ0.out⟩
          case round =>
            obtain ⟨k, x', hI⟩ := hrel
            obtain rfl := hI.val
            by_cases hk : k < l.length
            · obtain ⟨kk, val, hlk⟩ : ∃ kk val, l[k]? = some (kk, val) := ⟨l[k].1, l[k].2, List.getElem?_eq_getElem hk⟩
              have hmem : (kk, val) ∈ l := List.mem_of_getElem? hlk
              have b0w : Below w0.heap.size w0 wr := X.out.2.2.2.2.2.1.trans hI.below
              have mb : wr.cell? ⟨b, o, none⟩ = some (.map (some g)) := (b0w.cell (p := ⟨b, o, none⟩) (World.block_lt_of_cell? w0 _ X.out.1)).trans X.out.1
              have hown6 : wr.ownsMap Tryd.prog 62 R0 g n D := ownsMap_block X.out.2.1 (b0w.block g hgl)
              have hkk : kk ≤ 4294967295 := X.out.2.2.2.1.small _ hmem
              obtain ⟨-, v', hat, hrb⟩ := X.out.2.2.2.1.there kk val hmem
              obtain ⟨v1, ps, hrun, hv1⟩ := hown6.lookup tagKeyed Tryd.underlying40 (zeroBytes wr) (zd := .held (.slice none 0 0)) (zp := []) rfl (keyOf_int_mk Tryd.underlying62 (kl32_wf hkk))
              rw [show D.atKey (Lit.int .u32 (kk : Nat)) (.held (.slice none 0 0)) = .held v' from hat _] at hv1
              obtain rfl : v1 = v' := by simp [R0] at hv1; exact hv1.1
              have hz3 : l.length = ss.length := W.out.2.2.2.2.symm
              have mz : wr.cell? ⟨z, k, none⟩ = some (.int .u32 (kk : Nat)) := by
                have h1 : cur'[k]? = some (.int .u32 (kk : Nat)) := by
                  have h2 := congrArg (fun q : List Value => q[k]?) W.out.2.1
                  rw [List.getElem?_take_of_lt (by omega), W.out.2.2.2.1] at h2
                  simpa [hlk] using h2
                have h3 : wr.cell? ⟨z, k, none⟩ = cur'[k]? := by simp [World.cell?, hI.row]
                rw [h3, h1]
              have hal : (bs ++ apTags (l.take k)).length + (apTags [(kk, val)]).length ≤ lim := by
                have h1 := apTags_take l (k + 1)
                rw [apTags_snoc l k _ hlk, List.length_append] at h1
                have := X.out.2.2.2.2.2.2.2.2.1
                simp only [List.length_append]
                omega
              have hC6 := tagPut (w0 := w0) (w := wr) (q := q) (k := kk) (x := x') (v := v1) (bs := bs ++ apTags (l.take k)) (val := val) b0w hrb hq hI.blk hI.own hkk (X.out.2.2.2.2.2.2.2.2.2.2.1 _ hmem) hal
              obtain ⟨sad, scap, rfl, -⟩ : ∃ a cap, v1 = .slice a val.length cap ∧ True := by obtain ⟨a, cap, h, -⟩ := hrb; exact ⟨a, cap, h, trivial⟩
              have C6 := Lib.hid hC6
              have HQ := Lib.hid (And.intro hI (And.intro hlk (And.intro b0w hk)))
              have hk0 : (0 : Int) ≤ (k : Nat) := by omega
              have hk1 : ((k : Nat) : Int) < (l.length : Nat) := by omega
              have hk2 : ((l.length : Nat) : Int) ≤ 4294967295 := by have := X.out.2.2.2.2.2.2.2.2.2.1; omega
              clear hC6 hI hlk b0w hown6 hat hrb hv1 hz3 hal hmem hkk HJ0 hk
              go_wp2_with fail
              refine C6.out.mono ?_
              rintro e w6 ⟨rfl, x6, b6, o6, t6, l6⟩
              have hstep : EInv2 q z w.heap.size l bs cur' w0 w w6 (k + 1) (.int .i64 ((k + 1 : Nat) : Int)) x6 := by
                have hI := HQ.out.1
                refine ⟨by have := HQ.out.2.2.2; omega, rfl, b6, ?_, ⟨t6.os.trans hI.below.os, t6.tape.trans hI.below.tape, t6.output.trans hI.below.output, Nat.le_trans hI.below.size t6.size, fun j hj => (l6.block j hj).trans (X.out.2.2.2.2.2.1.block j hj).symm⟩, ?_⟩
                · rw [apTags_snoc l k _ HQ.out.2.1, ← List.append_assoc]; exact o6
                · have hzl : z < wr.heap.size := (Array.getElem?_eq_some_iff.1 hI.row).1
                  refine (t6.block z hzl (by have := L0.out.2.1; have := I.out.2.2.2.2.2.2.2.2; omega) (fun cr fr h => ?_)).trans hI.row
                  rw [hI.row] at h
                  simp at h
              have HS6 := Lib.hid hstep
              clear C6 b6 o6 t6 l6 hstep
              go_wp2
              go_roundw
              case rel =>
                refine ⟨k + 1, x6, ?_⟩
                have h := HS6.out
                have e1 : ((k + 1 : Nat) : Int) = (k : Int) + 1 := by omega
                rw [e1] at h
                exact h
              case measure =>
                simp only [numOf]
                omega
            · have hkl : k = l.length := by have := hI.le; omega
              have hE : EachPost w0 w q (bs ++ apTags l) (.returned (.tuple #[])) wr := ⟨rfl, x', hI.blk, by have := hI.own; rw [hkl, List.take_length] at this; exact this, hI.below⟩
              have HE := Lib.hid hE
              clear hE hI HJ0
              subst hkl
              go_wp2
              go_end0
              exact HE.out
        · intro x' cc kl yd yp w3 cnt3 hkey hlk hv hat hrg3 hlt hg3 hs3 hen
          obtain ⟨x'', ex, rfl, hk32⟩ := keyK hkey
          obtain rfl := encK_inj ex
          have hrow3 := HR.out.row.kept hg3 (.inr (iter_ne HR.out.row HR.out.hrg))
          have box3 : Blk w3 w1.heap.size [.slice a ss.length c] 63 := (hg3.block _ HR.out.box.lt (by have := RR.out.2; simp; omega)).trans HR.out.box
          have bel3 : Below w.heap.size w w3 := HR.out.below.grown hg3 HR.out.below.size (fun j hj => by cases hj; have := RR.out; omega)
          have hown3 : w3.ownsMap Tryd.prog 62 R0 g n D := hrg3.owns
          have m5 := box3.cell_some (i := 0) rfl
          have hs1 : ss.length + 1 ≤ 4294967295 := by have := HR.out.le; have := X.out.2.2.2.2.2.2.2.2.2.1; omega
          have Y := Lib.hid (And.intro hrow3 (And.intro box3 (And.intro bel3 (And.intro hrg3 (And.intro hlt (And.intro hlk (And.intro hat (And.intro hs1 (And.intro hown3 (And.intro hg3 hk32))))))))))
          have hb1 : ss.length + 1 ≤ maxLen := by unfold maxLen; omega
          have hb2 : (ss.length + 1) * 4 ≤ 140737488355328 := by omega
          have hb3 : w.heap.size ≤ (w3.alloc (.cells #[encK x'] 62)).heap.size := by have := bel3.size; simp; omega
          have Z := Lib.hid (And.intro hb1 (And.intro hb2 hb3))
          have m5' : ∀ ob, (w3.alloc ob).cell? ⟨w1.heap.size, 0, none⟩ = some (.slice a ss.length c) := fun ob => (World.cell?_of_block (Below.heap_alloc w3 ob _ box3.lt)).trans m5
          clear hs3 hrow3 box3 bel3 hrg3 hlt hlk hat hs1 hown3 hg3 hk32 hkey hv hb1 hb2 hb3
          go_wp2_with (first
            | (at_builtin; refine wpList_append_own _ rfl _ _ 63 rfl w.heap.size 62 i0 (.int .u32 0) 1 4 Tryd.underlying63 I.out.1 I.out.2.1 I.out.2.2.1 I.out.2.2.2.1 rfl (by decide) _ _ _ rfl (Y.out.1.alloc _) ⟨w3.heap.size, 0, none⟩ 1 1 [encK x'] rfl rfl (cell_one_new _ _ _) (by simp [Value.oneCell', encK]) Z.out.1 Z.out.2.1 Z.out.2.2 ?_; intro v' w4 hown' hg4 hnil4
               have hnn' : v' ≠ .slice none 0 0 := fun hv' => by have := (hnil4.1 hv').2; omega
               clear hnil4
               obtain ⟨a4, c4, rfl, ha4⟩ := row_shape hown' hnn'
               have box4 : Blk w4 w1.heap.size [.slice a ss.length c] 63 := (hg4.block _ (by have := Y.out.2.1.lt; simp; omega) (fun e => blk_ne Y.out.1 Y.out.2.1 (by decide) e.symm)).trans (Y.out.2.1.keeps ((Keeps.refl [] w3).alloc _) (by simp))
               have m6 := box4.cell_some (i := 0) rfl
               have f6 := box4.frozen 0
               have U := Lib.hid (And.intro hown' (And.intro hg4 (And.intro box4 ha4)))
               clear hown' hg4 box4 ha4 hnn')
            | go_in)
          have e1 : (ss ++ [x']).length = ss.length + 1 := by simp
          have p4r : w1.heap.size ≠ r := by have := RR.out; omega
          have p4g : w1.heap.size ≠ g := by have := RR.out; have := I.out.2.2.2.2.2.2.2.1; omega
          have rg4 := (((Y.out.2.2.2.1.alloc (.cells #[.int .u32 (x' : Nat)] 62)).kept U.out.2.1 (fun e => map_ne Y.out.1 Y.out.2.2.2.2.2.2.2.2.1 e.symm) (fun e => iter_ne Y.out.1 Y.out.2.2.2.1 e.symm)).kept (grown_setCell w4 w1.heap.size 0 (.slice a4 (ss.length + 1) c4)) (by simpa using fun e => p4g e.symm) (by simpa using fun e => p4r e.symm))
          refine ⟨⟨_, cnt3, ss ++ [x'], a4, c4, rg4, ?_, ?_, ?_, U.out.2.2.2, HR.out.coll.step Y.out.2.2.2.2.2.1 Y.out.2.2.2.2.2.2.1, ?_⟩, ?_⟩
          · have := HR.out.le; have := Y.out.2.2.2.2.1; omega
          · rw [e1]; exact U.out.2.2.1.set 0 _
          · rw [e1]
            have h := U.out.1.kept (grown_setCell w4 w1.heap.size 0 (.slice a4 (ss.length + 1) c4)) (.inr (blk_ne U.out.1 U.out.2.2.1 (by decide)))
            simpa using h
          · exact (((Y.out.2.2.1.alloc Y.out.2.2.1.size _).grown U.out.2.1 (by have := Y.out.2.2.1.size; simp; omega) (fun j hj => (Y.out.1.lt j hj).1))).setCell (show w.heap.size ≤ w1.heap.size from RR.out.1) _
          · rw [rg4.left_eq, HR.out.hrg.left_eq]; exact Y.out.2.2.2.2.1
set_option maxHeartbeats 1000000 in
theorem tagsAppend (hS : SortSpec) {w0 w : World} {b o : Nat} {v : Value} {bs : List UInt8} {l : List (Nat × List UInt8)} (h : TagMem [] w0 b o l) (hB : Below w0.heap.size w0 w) (hown : Own w0.heap.size w v bs) (hl : bs.length + (apTags l).length ≤ lim) :
    Calls Tryd.prog 23 #[.pointer (some ⟨b, o, none⟩), v] w (Appended w0.heap.size w (bs ++ apTags l)) := by
  obtain ⟨ya, yc, hx⟩ := own_shape hown
  generalize bs.length = yn at hx
  subst hx
  have hb1 : Blk (w.alloc (.cells #[.slice ya yn yc] 22)) w.heap.size [.slice ya yn yc] 22 := heap_alloc_new w _
  have hal : Below w0.heap.size w (w.alloc (.cells #[.slice ya yn yc] 22)) := (Below.refl _ _).alloc hB.size _
  have C := Lib.hid (tagsEach hS h (hB.trans hal) hB.size hb1 (World.ownsRow.alloc hown _) hl)
  have X := Lib.hid (And.intro hal trivial)
  clear h hB hown hl hb1 hal
  go_enter Tryd.func23, Tryd.ntmps23
  go_wp2_with fail
  refine C.out.mono ?_
  rintro e w1 ⟨rfl, x1, b1, o1, l1⟩
  have m1 := b1.cell_some (i := 0) rfl
  have Y := Lib.hid (And.intro o1 l1)
  clear b1 o1 l1 C
  go_wp2
  go_ret
  exact .mk Y.out.1 (X.out.1.trans Y.out.2)
theorem tagsOK (hS : SortSpec) : TagsOK TagMem Tryd.prog 22 23 := by
  intro w0 b o l h
  have hlen : l.length ≤ 4294967295 := by obtain ⟨m, n, D, -, -, -, -, -, h6, -⟩ := h; exact h6
  exact ⟨hlen, fun w hb => tagsLen h hb, fun w v bs hb hown hl => tagsAppend hS h hb hown hl⟩
end Go.Proofs.YtolpnfdegjdibaaDoor

/-
  DERIVED: THE SHELF's CONTRACTS AT THIS DUMP, IN PLAIN WORDS (tools/lay-plain.mjs out of 'TrydShelf.lean', which tools/lay-shelf.mjs wrote): THE SAME DECLARATIONS UNDER THE SAME NAMES: 'import', 'namespace', 'open', 'def', 'theorem' AND NOTHING ELSE: no command of the shelf's: FOR A HAND-IN. Each laying: the table of numbers ('.._ren') and one theorem, a field a fact of the dump's own or the kernel's comparison; each contract: ONE APPLICATION.
-/
namespace Go.Proofs
open Go.Shelf
def Tryd.laysGg6_ren : Go.Shelf.Ren := ⟨fun | 6 => 62 | 10 => 66 | 11 => 67 | 12 => 68 | 13 => 69 | 14 => 70 | 24 => 61 | 25 => 80 | 26 => 81 | 27 => 82 | 28 => 83 | 29 => 84 | 30 => 85 | 31 => 86 | 32 => 87 | 33 => 88 | 34 => 89 | 35 => 90 | 36 => 91 | 37 => 92 | 38 => 93 | 39 => 94 | n => n, fun | 20 => 20 | 26 => 97 | 35 => 103 | 0 => 0 | 37 => 105 | 3 => 3 | 41 => 84 | 44 => 110 | 49 => 62 | 51 => 82 | 4 => 4 | 54 => 117 | 53 => 116 | 58 => 121 | 5 => 5 | 9 => 9 | 60 => 123 | 64 => 126 | 66 => 128 | 67 => 129 | 17 => 17 | 32 => 100 | 33 => 101 | 82 => 144 | 12 => 12 | 75 => 137 | 76 => 138 | 77 => 139 | 78 => 140 | 79 => 141 | 80 => 142 | n => n, fun | n => n⟩
theorem Tryd.laysGg6 : Go.Proofs.LaysGg.n6 Tryd.prog Tryd.laysGg6_ren := {
  mixed := by kernel_rfl
  f6 := Tryd.func62.trans (congrArg some (by kernel_rfl))
  f10 := Tryd.func66.trans (congrArg some (by kernel_rfl))
  f11 := Tryd.func67.trans (congrArg some (by kernel_rfl))
  f12 := Tryd.func68.trans (congrArg some (by kernel_rfl))
  f13 := Tryd.func69.trans (congrArg some (by kernel_rfl))
  f14 := Tryd.func70.trans (congrArg some (by kernel_rfl))
  f24 := Tryd.func61.trans (congrArg some (by kernel_rfl))
  f25 := Tryd.func80.trans (congrArg some (by kernel_rfl))
  f26 := Tryd.func81.trans (congrArg some (by kernel_rfl))
  f27 := Tryd.func82.trans (congrArg some (by kernel_rfl))
  f28 := Tryd.func83.trans (congrArg some (by kernel_rfl))
  f29 := Tryd.func84.trans (congrArg some (by kernel_rfl))
  f30 := Tryd.func85.trans (congrArg some (by kernel_rfl))
  f31 := Tryd.func86.trans (congrArg some (by kernel_rfl))
  f32 := Tryd.func87.trans (congrArg some (by kernel_rfl))
  f33 := Tryd.func88.trans (congrArg some (by kernel_rfl))
  f34 := Tryd.func89.trans (congrArg some (by kernel_rfl))
  f35 := Tryd.func90.trans (congrArg some (by kernel_rfl))
  f36 := Tryd.func91.trans (congrArg some (by kernel_rfl))
  f37 := Tryd.func92.trans (congrArg some (by kernel_rfl))
  f38 := Tryd.func93.trans (congrArg some (by kernel_rfl))
  f39 := Tryd.func94.trans (congrArg some (by kernel_rfl))
  t0 := Tryd.underlying0
  a0 := Tryd.isAgg0
  z0 := Tryd.sizeOf0
  v0 := Tryd.zeroValue0
  i0 := by kernel_rfl
  t3 := Tryd.underlying3
  a3 := Tryd.isAgg3
  z3 := Tryd.sizeOf3
  v3 := Tryd.zeroValue3
  i3 := by kernel_rfl
  t4 := Tryd.underlying4
  a4 := Tryd.isAgg4
  z4 := Tryd.sizeOf4
  v4 := Tryd.zeroValue4
  i4 := by kernel_rfl
  t5 := Tryd.underlying5
  a5 := Tryd.isAgg5
  z5 := Tryd.sizeOf5
  v5 := Tryd.zeroValue5
  i5 := by kernel_rfl
  t9 := Tryd.underlying9
  a9 := Tryd.isAgg9
  z9 := Tryd.sizeOf9
  v9 := Tryd.zeroValue9
  i9 := by kernel_rfl
  t12 := Tryd.underlying12
  a12 := Tryd.isAgg12
  z12 := Tryd.sizeOf12
  v12 := Tryd.zeroValue12
  i12 := by kernel_rfl
  t17 := Tryd.underlying17
  a17 := Tryd.isAgg17
  z17 := Tryd.sizeOf17
  v17 := Tryd.zeroValue17
  i17 := by kernel_rfl
  t20 := Tryd.underlying20
  a20 := Tryd.isAgg20
  z20 := Tryd.sizeOf20
  v20 := Tryd.zeroValue20
  i20 := by kernel_rfl
  t26 := Tryd.underlying97
  a26 := Tryd.isAgg97
  z26 := Tryd.sizeOf97
  v26 := Tryd.zeroValue97
  i26 := by kernel_rfl
  t32 := Tryd.underlying100
  a32 := Tryd.isAgg100
  z32 := Tryd.sizeOf100
  v32 := Tryd.zeroValue100
  i32 := by kernel_rfl
  t33 := Tryd.underlying101
  a33 := Tryd.isAgg101
  z33 := Tryd.sizeOf101
  v33 := Tryd.zeroValue101
  i33 := by kernel_rfl
  t35 := Tryd.underlying103
  a35 := Tryd.isAgg103
  z35 := Tryd.sizeOf103
  v35 := Tryd.zeroValue103
  i35 := by kernel_rfl
  t37 := Tryd.underlying105
  a37 := Tryd.isAgg105
  z37 := Tryd.sizeOf105
  v37 := Tryd.zeroValue105
  i37 := by kernel_rfl
  t41 := Tryd.underlying84
  a41 := Tryd.isAgg84
  z41 := Tryd.sizeOf84
  v41 := Tryd.zeroValue84
  i41 := by kernel_rfl
  t44 := Tryd.underlying110
  a44 := Tryd.isAgg110
  z44 := Tryd.sizeOf110
  v44 := Tryd.zeroValue110
  i44 := by kernel_rfl
  t49 := Tryd.underlying62
  a49 := Tryd.isAgg62
  z49 := Tryd.sizeOf62
  v49 := Tryd.zeroValue62
  i49 := by kernel_rfl
  t51 := Tryd.underlying82
  a51 := Tryd.isAgg82
  z51 := Tryd.sizeOf82
  v51 := Tryd.zeroValue82
  i51 := by kernel_rfl
  t53 := Tryd.underlying116
  a53 := Tryd.isAgg116
  z53 := Tryd.sizeOf116
  v53 := Tryd.zeroValue116
  i53 := by kernel_rfl
  t54 := Tryd.underlying117
  a54 := Tryd.isAgg117
  z54 := Tryd.sizeOf117
  v54 := Tryd.zeroValue117
  i54 := by kernel_rfl
  t58 := Tryd.underlying121
  a58 := Tryd.isAgg121
  z58 := Tryd.sizeOf121
  v58 := Tryd.zeroValue121
  i58 := by kernel_rfl
  t60 := Tryd.underlying123
  a60 := Tryd.isAgg123
  z60 := Tryd.sizeOf123
  v60 := Tryd.zeroValue123
  i60 := by kernel_rfl
  t64 := Tryd.underlying126
  a64 := Tryd.isAgg126
  z64 := Tryd.sizeOf126
  v64 := Tryd.zeroValue126
  i64 := by kernel_rfl
  t66 := Tryd.underlying128
  a66 := Tryd.isAgg128
  z66 := Tryd.sizeOf128
  v66 := Tryd.zeroValue128
  i66 := by kernel_rfl
  t67 := Tryd.underlying129
  a67 := Tryd.isAgg129
  z67 := Tryd.sizeOf129
  v67 := Tryd.zeroValue129
  i67 := by kernel_rfl
  t75 := Tryd.underlying137
  a75 := Tryd.isAgg137
  z75 := Tryd.sizeOf137
  v75 := Tryd.zeroValue137
  i75 := by kernel_rfl
  t76 := Tryd.underlying138
  a76 := Tryd.isAgg138
  z76 := Tryd.sizeOf138
  v76 := Tryd.zeroValue138
  i76 := by kernel_rfl
  t77 := Tryd.underlying139
  a77 := Tryd.isAgg139
  z77 := Tryd.sizeOf139
  v77 := Tryd.zeroValue139
  i77 := by kernel_rfl
  t78 := Tryd.underlying140
  a78 := Tryd.isAgg140
  z78 := Tryd.sizeOf140
  v78 := Tryd.zeroValue140
  i78 := by kernel_rfl
  t79 := Tryd.underlying141
  a79 := Tryd.isAgg141
  z79 := Tryd.sizeOf141
  v79 := Tryd.zeroValue141
  i79 := by kernel_rfl
  t80 := Tryd.underlying142
  a80 := Tryd.isAgg142
  z80 := Tryd.sizeOf142
  v80 := Tryd.zeroValue142
  i80 := by kernel_rfl
  t82 := Tryd.underlying144
  a82 := Tryd.isAgg144
  z82 := Tryd.sizeOf144
  v82 := Tryd.zeroValue144
  i82 := by kernel_rfl }
open Go.RowKit Go.Lib Go.Sort in
/-- **sort.Slice AT NO ELEMENT OR ONE.** (LAID: no walk: one application.) -/
theorem Tryd.sort_Slice_tiny (t e : TypeId) (i ie : TypeInfo) (hi : Tryd.prog.info? t = some i) (hd : i.desc = .slice e) (hpk : Tryd.prog.packed t = false) (hie : Tryd.prog.info? e = some ie) (ke : Nat) (hke : ∀ w, (Extern.Rtype.kind e).run Tryd.prog w = .ok ke w) (p : Option Addr) (n c : Nat) (h1 : n ≤ 1) (f : Nat) (hf : Tryd.prog.funcs.findIdx? (·.name == "internal/reflectlite" ++ ".Swapper$" ++ toString (swapperK n ie ke)) = some f) (lf : Fn) (la lb : Array Value) (w : World) :
    Calls Tryd.prog 62 #[.iface t (.slice p n c), .func lf la lb] w fun e w' => e = .returned (.tuple #[]) ∧ ∃ os, w' = grow w os := Any.sort_Slice_tiny Tryd.laysGg6 t e i ie hi hd hpk hie ke hke p n c h1 f hf lf la lb w
open Go.RowKit Go.Lib Go.Sort in
/-- **sort.Slice, IN THE DOCUMENTATION's OWN TERMS: A PERMUTATION OF WHAT THE ROW HELD, SORTED BY 'lt'.** Which of two equals comes first is left open. (LAID: no walk: one application.) -/
theorem Tryd.sort_Slice_sorted {α : Type} [Inhabited α] (t e : TypeId) (i ie : TypeInfo) (hi : Tryd.prog.info? t = some i) (hd : i.desc = .slice e) (hpk : Tryd.prog.packed t = false) (hie : Tryd.prog.info? e = some ie) (ke : Nat) (hke : ∀ w, (Extern.Rtype.kind e).run Tryd.prog w = .ok ke w) (hs1 : ie.size = 1) (hagg : ∀ w, (isAgg e).run Tryd.prog w = .ok false w) (enc : α → Value) (h1 : ∀ x, (enc x).oneCell' = true) (lt : α → α → Bool) (hO : SWO lt) (g : Nat) (lb : Array Value) (eg : ∀ args w, (callFunc g args).run Tryd.prog w = .ok (.enter g args) w) (blk off c : Nat) (d : Array α) (h2 : 2 ≤ d.size) (hsz : d.size < 4611686018427387904) (f : Nat) (hf : Tryd.prog.funcs.findIdx? (·.name == "internal/reflectlite" ++ ".Swapper$" ++ toString (swapperK d.size ie ke)) = some f) (gS : Bool) (hx : ∀ args W, (callFunc f args).run Tryd.prog W = ((Extern.ReflectliteSwapper.swap gS args).run Tryd.prog W).andThen fun v w' => .ok (.value v) w') (w : World) (hless : LessReads Tryd.prog g lb enc lt blk off d.size w) (hH : Holds enc w blk off d) (hblk : blk < w.heap.size) :
    Calls Tryd.prog 62 #[.iface t (.slice (some ⟨blk, off, none⟩) d.size c), .func (.func g) #[] lb] w fun e w' =>
      e = .returned (.tuple #[]) ∧ ∃ d' n os, PermIn 0 d.size d d' ∧ SortedIn lt 0 d.size d' ∧ w' = grow (putRow enc (Sort.ahead w n) blk off d') os := Any.sort_Slice_sorted Tryd.laysGg6 t e i ie hi hd hpk hie ke hke hs1 hagg enc h1 lt hO g lb eg blk off c d h2 hsz f hf gS hx w hless hH hblk
end Go.Proofs

/- Unknown tags: their keys, sorted by Go's own sort.Slice. -/
namespace Go.Proofs.YtolpnfdegjdibaaDoor
open Go Go.RowKit Go.Sort Go.Lib
set_option linter.unusedVariables false

noncomputable def siT : TypeInfo := (Tryd.prog.info? 63).get (by kernel_rfl)
noncomputable def siE : TypeInfo := (Tryd.prog.info? 62).get (by kernel_rfl)
theorem siK (n : Nat) (h2 : 2 ≤ n) : Lib.swapperK n siE 10 = 6 := by
  have a : siE.hasPointers = false := by kernel_rfl
  have b : siE.bytes = 4 := by kernel_rfl
  have c : (n == 0) = false := by simp; omega
  have d : (n == 1) = false := by simp; omega
  simp [Lib.swapperK, a, b, c, d]
def ltN (x y : Nat) : Bool := decide (x < y)
theorem swoN : SWO ltN where
  irrefl x := by simp [ltN]
  trans x y z h1 h2 := by simp only [ltN, decide_eq_true_eq] at *; omega
  ntrans x y z h1 h2 := by simp only [ltN, decide_eq_false_iff_not] at *; omega
theorem holdsK {w : World} {g : Nat} {cur : Array Value} {e : TypeId} {ss : List Nat} (hb : w.heap[g]? = some (.cells cur e (0, 0))) (ht : cur.toList.take ss.length = ss.map encK) : Go.Sort.Holds encK w g 0 ss.toArray := by
  intro j hj
  have hj' : j < ss.length := by simpa using hj
  refine ⟨?_, by simp [World.frozen?, hb]⟩
  have h1 : (cur.toList.take ss.length)[j]? = (ss.map encK)[j]? := by rw [ht]
  rw [List.getElem?_take_of_lt hj'] at h1
  simp only [World.cell?, hb, Nat.zero_add]
  simp only [Option.isSome_none, Bool.false_eq_true, if_false]
  rw [← Array.getElem?_toList, h1]
  simp [hj']
theorem heapK {w : World} {g n : Nat} {os : Array Obj} {cur : Array Value} {e : TypeId} {fr : Nat × Nat} (d : Array Nat) (hb : w.heap[g]? = some (.cells cur e fr)) :
    (grow (putRow encK (Sort.ahead w n) g 0 d) os).heap[g]? = some (.cells (putCells encK 0 d cur) e fr) := by
  have hg : g < w.heap.size := (Array.getElem?_eq_some_iff.1 hb).1
  rw [heap_grow_old _ _ (by simpa using hg)]
  simp [putRow, mapBlock, Sort.ahead, Array.getElem?_modify, hb, onCells]
theorem grownK {w : World} {g n : Nat} {os : Array Obj} (d : Array Nat) : w.grownBy (grow (putRow encK (Sort.ahead w n) g 0 d) os) (some g) := by
  refine ⟨rfl, rfl, rfl, by simp, fun k hk hne => ?_⟩
  rw [heap_grow_old _ _ (by simpa using hk)]
  have : g ≠ k := fun e => hne (by rw [e])
  simp [putRow, mapBlock, Sort.ahead, Array.getElem?_modify, this]
theorem takeK (cur : Array Value) (ts : List Nat) (h : ts.length ≤ cur.size) : (putCells encK 0 ts.toArray cur).toList.take ts.length = ts.map encK := by
  apply List.ext_getElem?
  intro j
  by_cases hj : j < ts.length
  · rw [List.getElem?_take_of_lt hj, Array.getElem?_toList]
    simp [putCells, hj, show j < cur.size by omega]
  · rw [List.getElem?_take_eq_none (by omega), List.getElem?_eq_none (by simp; omega)]
set_option maxHeartbeats 2000000 in
/-- 'func(i, j int) bool { return ordered[i] < ordered[j] }'. -/
theorem tagLess (blk c Bs size : Nat) (W : World) (G : Nat → Nat) (hs : W.cell? ⟨Bs, 0, none⟩ = some (.slice (some ⟨blk, 0, none⟩) size c)) (hc : ∀ t, t < size → W.cell? ⟨blk, 0 + t, none⟩ = some (.int .u32 (G t : Nat))) (i j : Nat) (hi : i < size) (hj : j < size) :
    Calls Tryd.prog 63 #[.int .i64 i, .int .i64 j, .pointer (some ⟨Bs, 0, none⟩)] W fun e w' => e = .returned (.bool (ltN (G i) (G j))) ∧ ∃ q, w' = W.drewN q := by
  have ci := hc i hi
  have cj := hc j hj
  rw [Nat.zero_add] at ci cj
  go_enter Tryd.func63, Tryd.ntmps63
  go_wp2
  go_quiet (fail)
  go_wp2
  go_ret
  exact ⟨by simp [ltN], nq, rfl⟩
theorem short_sorted : ∀ ks : List Nat, ¬ 2 ≤ ks.length → ks.Pairwise (· ≤ ·)
  | [], _ => List.Pairwise.nil
  | [x], _ => by simp
  | x :: y :: r, h => absurd (by simp) h
set_option maxHeartbeats 2000000 in
theorem sortOK : SortSpec := by
  intro w z c p ks cur hz ht hp hl
  have hzl : z < w.heap.size := (Array.getElem?_eq_some_iff.1 hz).1
  have hH := holdsK hz ht
  have hlen : ks.length ≤ cur.size := by
    have := congrArg List.length ht
    simp at this
    omega
  have hzp : p ≠ z := by
    rintro rfl
    unfold Blk at hp
    rw [hz] at hp
    simp at hp
  by_cases h2 : 2 ≤ ks.length
  · have hless : LessReads Tryd.prog 63 #[.pointer (some ⟨p, 0, none⟩)] encK ltN z 0 ks.toArray.size w := by
      intro m os dk hs i j hi hj
      have hHg : Go.Sort.Holds encK (Sort.ahead w m) z 0 ks.toArray := holds_ahead _ _ _ _ _ _ hH
      refine tagLess z c p ks.toArray.size _ (fun t => dk[t]!) ?_ (fun t ht => ?_) i j hi hj
      · unfold sortWorld
        rw [cell?_grow _ _ _ (by simpa using hp.lt), cell?_putRow_other _ _ z 0 dk _ (Or.inl hzp)]
        have := hp.cell_some (i := 0) rfl
        exact this
      · unfold sortWorld
        rw [cell?_grow _ _ _ (by simpa using hzl)]
        exact cell?_putRow _ _ z 0 ks.toArray dk hHg hs t (by omega)
    have hS := Tryd.sort_Slice_sorted 63 62 siT siE (by kernel_rfl) (by kernel_rfl) (by kernel_rfl) (by kernel_rfl) 10 (fun _ => by kernel_rfl) (by kernel_rfl) (fun _ => by kernel_rfl) encK (fun _ => rfl) ltN swoN 63 _
      (enters_of Tryd.func63 (by kernel_rfl) rfl) z 0 c ks.toArray (by simpa using h2) (by simp; omega) 76 (by rw [siK _ (by simpa using h2)]; kernel_rfl) true
      (fun args W => run_callFunc_extern Tryd.func76 (by kernel_rfl) (by kernel_rfl) (by kernel_rfl) (e := Extern.ReflectliteSwapper.swap true) (by kernel_rfl) args W) w hless hH hzl
    have e0 : ks.toArray.size = ks.length := by simp
    rw [e0] at hS
    refine hS.mono ?_
    rintro e w' ⟨rfl, d', n, os, hpm, hso, rfl⟩
    have hpm' : PermIn 0 ks.toArray.size ks.toArray d' := by rw [e0]; exact hpm
    have hso' : SortedIn ltN 0 ks.toArray.size d' := by rw [e0]; exact hso
    obtain ⟨hsz, -, hperm⟩ := hpm'
    have e1 : d'.extract 0 ks.toArray.size = d' := by rw [← hsz]; exact Array.extract_size
    rw [e1, Array.extract_size] at hperm
    have hd : d'.toList.toArray = d' := by simp
    refine ⟨rfl, d'.toList, putCells encK 0 d' cur, hperm, ?_, heapK d' hz, ?_, grownK d'⟩
    · refine List.pairwise_iff_getElem.2 fun i j hi hj hij => ?_
      have h := hso' i j (Nat.zero_le _) hij (by rw [← hsz]; simpa using hj)
      simp only [ltN, decide_eq_false_iff_not] at h
      simp at hi hj
      rw [getElem!_pos d' i hi, getElem!_pos d' j hj] at h
      simp only [Array.getElem_toList]
      omega
    · have h := takeK cur d'.toList (by simp; omega)
      rw [hd] at h
      have e2 : d'.toList.length = ks.length := by simp; omega
      rw [e2] at h
      exact h
  · have hS : Calls Tryd.prog 62 #[.iface 63 (.slice (some ⟨z, 0, none⟩) ks.length c), .func (.func 63) #[] #[.pointer (some ⟨p, 0, none⟩)]] w fun e w' => e = .returned (.tuple #[]) ∧ ∃ os, w' = grow w os := by
      rcases Nat.eq_zero_or_pos ks.length with h | h
      · rw [h]
        exact Tryd.sort_Slice_tiny 63 62 siT siE (by kernel_rfl) (by kernel_rfl) (by kernel_rfl) (by kernel_rfl) 10 (fun _ => by kernel_rfl) (some ⟨z, 0, none⟩) 0 c (by omega) 71 (by rw [show Lib.swapperK 0 siE 10 = 1 by simp [Lib.swapperK]]; kernel_rfl) (.func 63) #[] #[.pointer (some ⟨p, 0, none⟩)] w
      · have h : ks.length = 1 := by omega
        rw [h]
        exact Tryd.sort_Slice_tiny 63 62 siT siE (by kernel_rfl) (by kernel_rfl) (by kernel_rfl) (by kernel_rfl) 10 (fun _ => by kernel_rfl) (some ⟨z, 0, none⟩) 1 c (by omega) 72 (by rw [show Lib.swapperK 1 siE 10 = 2 by simp [Lib.swapperK]]; kernel_rfl) (.func 63) #[] #[.pointer (some ⟨p, 0, none⟩)] w
    refine hS.mono ?_
    rintro e w' ⟨rfl, os, rfl⟩
    refine ⟨rfl, ks, cur, List.Perm.refl _, ?_, ?_, ht, ?_⟩
    · exact short_sorted ks h2
    · rw [heap_grow_old _ _ hzl]; exact hz
    · exact ⟨rfl, rfl, rfl, by simp, fun k hk _ => heap_grow_old _ _ hk⟩
end Go.Proofs.YtolpnfdegjdibaaDoor

/- Tags: what is written of none. -/
namespace Go.Proofs.YtolpnfdegjdibaaDoor
open Go Go.RowKit
set_option maxHeartbeats 400000 in
theorem tagsLen0 (a : Addr) (w : World) (hc : w.cell? a = some (.map none)) : Calls Tryd.prog 22 #[.pointer (some a)] w fun e w' => e = .returned (.int .i64 0) ∧ w = w' := by
  go_enter Tryd.func22, Tryd.ntmps22
  go_wp2
  go_ret
  exact ⟨rfl, rfl⟩
set_option maxHeartbeats 400000 in
theorem tagsEach0 (a : Addr) (fn : Value) (w : World) (hc : w.cell? a = some (.map none)) : Calls Tryd.prog 53 #[.pointer (some a), fn] w fun e w' => e = .returned (.tuple #[]) ∧ w = w' := by
  go_enter Tryd.func53, Tryd.ntmps53
  go_wp2
  exact bodyPost_ret (results_none rfl _ _ _) rfl ⟨rfl, rfl⟩
set_option maxHeartbeats 400000 in
theorem appendEach0 (a : Addr) (base : Nat) (w : World) (v : Value) (bs : List UInt8) (hc : w.cell? a = some (.map none)) (hown : Own base w v bs) (hb : base ≤ w.heap.size) :
    Calls Tryd.prog 23 #[.pointer (some a), v] w (Appended base w bs) := by
  have hlt : a.block < w.heap.size := World.block_lt_of_cell? w a hc
  have hv : ∃ ad n c, v = .slice ad n c := by
    rcases hown.2 with ⟨rfl, -⟩ | ⟨g, cap, cur, rfl, -⟩
    · exact ⟨_, _, _, rfl⟩
    · exact ⟨_, _, _, rfl⟩
  obtain ⟨ad, n, c, rfl⟩ := hv
  go_enter Tryd.func23, Tryd.ntmps23
  go_wp2_with fail
  refine (tagsEach0 a _ _ ?_).mono ?_
  · rw [World.cell?_alloc_lt _ _ _ hlt]; exact hc
  rintro e w' ⟨rfl, rfl⟩
  go_wp2
  go_ret
  exact .mk (hown.alloc _) ((Below.refl _ _).alloc hb _)
end Go.Proofs.YtolpnfdegjdibaaDoor

/- The kinds of fields, each with the function that writes it, at this program. -/
namespace Go.Proofs.YtolpnfdegjdibaaDoor
open Go Go.RowKit

theorem kok2 {N lo t a b : Nat} {x y : Value} (h : (a ≠ 1 ∧ (a < lo ∨ (N ≤ a ∧ a < t))) ∧ (b ≠ 1 ∧ (b < lo ∨ (N ≤ b ∧ b < t)))) : KOK N lo t [(a, x), (b, y)] := by
  intro p hp
  simp only [List.mem_cons, List.not_mem_nil, or_false] at hp
  rcases hp with rfl | rfl
  · exact h.1
  · exact h.2
theorem kok1 {N lo t a : Nat} {x : Value} (h : a ≠ 1 ∧ (a < lo ∨ (N ≤ a ∧ a < t))) : KOK N lo t [(a, x)] := by
  intro p hp
  simp only [List.mem_cons, List.not_mem_nil, or_false] at hp
  subst hp
  exact h
theorem mem2a {p q : Nat × Value} : p ∈ [p, q] := List.mem_cons_self ..
theorem mem2b {p q : Nat × Value} : q ∈ [p, q] := List.mem_cons_of_mem _ (List.mem_cons_self ..)
theorem mem1a {p : Nat × Value} : p ∈ [p] := List.mem_cons_self ..

theorem str_size (l : List UInt8) : (ByteArray.mk l.toArray).size = l.length := by simp [ByteArray.size]
theorem str_data (l : List UInt8) : (ByteArray.mk l.toArray).data.toList = l := by simp
theorem cell_eq {w : World} {ad : Addr} {x y : Value} (h : w.cell? ad = some x) (h' : w.cell? ad = some y) : x = y := Option.some.inj (h.symm.trans h')

theorem leaf_i16 (ver : Int) (flex : Bool) : LeafOK Tryd.prog ver flex 50 .i16 := by
  intro w0 b o x v hr hc
  cases v <;> simp only [RepLeaf] at hr <;> try exact hr.elim
  obtain ⟨h1, h2, h3⟩ := hr
  obtain rfl := cell_eq h1 hc
  exact (appendInt16 _ h2 h3).at
theorem leaf_i32 (ver : Int) (flex : Bool) : LeafOK Tryd.prog ver flex 15 .i32 := by
  intro w0 b o x v hr hc
  cases v <;> simp only [RepLeaf] at hr <;> try exact hr.elim
  obtain ⟨h1, h2, h3⟩ := hr
  obtain rfl := cell_eq h1 hc
  exact (appendInt32 _ h2 h3).at
theorem leaf_u16 (ver : Int) (flex : Bool) : LeafOK Tryd.prog ver flex 60 .u16 := by
  intro w0 b o x v hr hc
  cases v <;> simp only [RepLeaf] at hr <;> try exact hr.elim
  obtain ⟨h1, h2, h3⟩ := hr
  obtain rfl := cell_eq h1 hc
  exact (appendUint16 _ h2 h3).at
theorem leaf_i64 (ver : Int) (flex : Bool) : LeafOK Tryd.prog ver flex 20 .i64 := by
  intro w0 b o x v hr hc
  cases v <;> simp only [RepLeaf] at hr <;> try exact hr.elim
  obtain rfl := cell_eq hr hc
  exact (appendInt64 _).at
theorem leaf_str_false (ver : Int) : LeafOK Tryd.prog ver false 19 .str := by
  intro w0 b o x v hr hc
  cases v <;> simp only [RepLeaf] at hr <;> try exact hr.elim
  rename_i l
  obtain ⟨h1, h2⟩ := hr
  obtain rfl := cell_eq h1 hc
  have h := (appendString ⟨l.toArray⟩ (by rw [str_size]; simp [strMax] at h2; omega)).at (w0 := w0)
  rw [str_size, str_data] at h
  exact h
theorem leaf_str_true (ver : Int) : LeafOK Tryd.prog ver true 18 .str := by
  intro w0 b o x v hr hc
  cases v <;> simp only [RepLeaf] at hr <;> try exact hr.elim
  rename_i l
  obtain ⟨h1, h2⟩ := hr
  obtain rfl := cell_eq h1 hc
  have h := (appendCompactString ⟨l.toArray⟩ (by rw [str_size]; simp [strMax] at h2; omega)).at (w0 := w0)
  rw [str_size, str_data] at h
  exact h
theorem leaf_nstr_false (ver : Int) : LeafOK Tryd.prog ver false 26 .nstr := by
  intro w0 b o x v hr hc
  cases v <;> simp only [RepLeaf] at hr <;> try exact hr.elim
  · rename_i l
    obtain ⟨⟨p, q, h1, -, h3⟩, h2⟩ := hr
    obtain rfl := cell_eq h1 hc
    intro w v bs hb ho hl
    have h := appendNullableString_some ⟨l.toArray⟩ (by rw [str_size]; simp [strMax] at h2; omega) ⟨p, q, none⟩ w0.heap.size w v bs ((hb.cell (World.block_lt_of_cell? w0 _ h3)).trans h3) ho hb.size
    rw [str_size, str_data] at h
    exact h hl
  · obtain rfl := cell_eq hr hc
    exact appendNullableString_nil.at
/-- The same of a text that may be null from a version on, at these versions. -/
theorem leaf_nstrFrom_false (ver n : Int) (hn : ¬ ver < n) : LeafOK Tryd.prog ver false 26 (.nstrFrom n) := by
  intro w0 b o x v hr hc
  cases v <;> simp only [RepLeaf] at hr <;> try exact hr.elim
  · rename_i l
    exact leaf_nstr_false ver w0 b o x (.bytes l) hr hc
  · have h := leaf_nstr_false ver w0 b o x .null hr hc
    simpa [apLeaf, hn] using h
theorem leaf_nstr_true (ver : Int) : LeafOK Tryd.prog ver true 25 .nstr := by
  intro w0 b o x v hr hc
  cases v <;> simp only [RepLeaf] at hr <;> try exact hr.elim
  · rename_i l
    obtain ⟨⟨p, q, h1, -, h3⟩, h2⟩ := hr
    obtain rfl := cell_eq h1 hc
    intro w v bs hb ho hl
    have h := appendCompactNullableString_some ⟨l.toArray⟩ (by rw [str_size]; simp [strMax] at h2; omega) ⟨p, q, none⟩ w0.heap.size w v bs ((hb.cell (World.block_lt_of_cell? w0 _ h3)).trans h3) ho hb.size
    rw [str_size, str_data] at h
    exact h hl
  · obtain rfl := cell_eq hr hc
    exact appendCompactNullableString_nil.at
/-- The same of a text that may be null from a version on, at these versions. -/
theorem leaf_nstrFrom_true (ver n : Int) (hn : ¬ ver < n) : LeafOK Tryd.prog ver true 25 (.nstrFrom n) := by
  intro w0 b o x v hr hc
  cases v <;> simp only [RepLeaf] at hr <;> try exact hr.elim
  · rename_i l
    exact leaf_nstr_true ver w0 b o x (.bytes l) hr hc
  · have h := leaf_nstr_true ver w0 b o x .null hr hc
    simpa [apLeaf, hn] using h
theorem tags_none : TagsOK noTags Tryd.prog 22 23 := by
  rintro w0 b o l ⟨rfl, hc⟩
  have hlt := World.block_lt_of_cell? w0 _ hc
  refine ⟨by simp, fun w hb => tagsLen0 _ w ((hb.cell hlt).trans hc), fun w v bs hb ho hl => ?_⟩
  have h := appendEach0 ⟨b, o, none⟩ w0.heap.size w v bs ((hb.cell hlt).trans hc) ho hb.size
  simpa [apTags] using h
theorem uvOK (n : Nat) (h : n ≤ 4294967295) : AppC Tryd.prog 21 (.int .u32 n) (uv n) := appendUvarint n h
theorem en_15 : Enters Tryd.prog 15 := Tryd.call15
theorem en_16 : Enters Tryd.prog 16 := Tryd.call16
theorem en_17 : Enters Tryd.prog 17 := Tryd.call17
theorem en_18 : Enters Tryd.prog 18 := Tryd.call18
theorem en_19 : Enters Tryd.prog 19 := Tryd.call19
theorem en_20 : Enters Tryd.prog 20 := Tryd.call20
theorem en_21 : Enters Tryd.prog 21 := Tryd.call21
theorem en_22 : Enters Tryd.prog 22 := Tryd.call22
theorem en_23 : Enters Tryd.prog 23 := Tryd.call23
theorem en_24 : Enters Tryd.prog 24 := Tryd.call24
theorem en_25 : Enters Tryd.prog 25 := Tryd.call25
theorem en_26 : Enters Tryd.prog 26 := Tryd.call26
theorem en_27 : Enters Tryd.prog 27 := Tryd.call27
theorem en_28 : Enters Tryd.prog 28 := Tryd.call28
theorem en_29 : Enters Tryd.prog 29 := Tryd.call29
theorem en_30 : Enters Tryd.prog 30 := Tryd.call30
theorem en_31 : Enters Tryd.prog 31 := Tryd.call31
theorem en_33 : Enters Tryd.prog 33 := Tryd.call33
theorem en_34 : Enters Tryd.prog 34 := Tryd.call34
theorem en_35 : Enters Tryd.prog 35 := Tryd.call35
theorem en_36 : Enters Tryd.prog 36 := Tryd.call36
theorem en_39 : Enters Tryd.prog 39 := Tryd.call39
theorem en_41 : Enters Tryd.prog 41 := Tryd.call41
theorem en_42 : Enters Tryd.prog 42 := Tryd.call42
theorem en_43 : Enters Tryd.prog 43 := Tryd.call43
theorem en_44 : Enters Tryd.prog 44 := Tryd.call44
theorem en_45 : Enters Tryd.prog 45 := Tryd.call45
theorem en_46 : Enters Tryd.prog 46 := Tryd.call46
theorem en_47 : Enters Tryd.prog 47 := Tryd.call47
theorem en_48 : Enters Tryd.prog 48 := Tryd.call48
theorem en_49 : Enters Tryd.prog 49 := Tryd.call49
theorem en_50 : Enters Tryd.prog 50 := Tryd.call50
theorem en_51 : Enters Tryd.prog 51 := Tryd.call51
theorem en_52 : Enters Tryd.prog 52 := Tryd.call52
theorem en_53 : Enters Tryd.prog 53 := Tryd.call53
theorem en_54 : Enters Tryd.prog 54 := Tryd.call54
theorem en_56 : Enters Tryd.prog 56 := Tryd.call56
theorem en_57 : Enters Tryd.prog 57 := Tryd.call57
theorem en_58 : Enters Tryd.prog 58 := Tryd.call58
theorem en_59 : Enters Tryd.prog 59 := Tryd.call59
theorem en_60 : Enters Tryd.prog 60 := Tryd.call60
theorem en_63 : Enters Tryd.prog 63 := Tryd.call63
theorem lenOK_false (n : Nat) (h : n ≤ 2147483647) : AppC Tryd.prog 17 (.int .i64 n) (lenB false n) := appendArrayLen n (by omega)
theorem lenOK_true (n : Nat) (h : n ≤ 2147483647) : AppC Tryd.prog 16 (.int .i64 n) (lenB true n) := appendCompactArrayLen n (by omega)
end Go.Proofs.YtolpnfdegjdibaaDoor

/- Defaults: a part's own values, laid into a fresh part. -/
namespace Go.Proofs.YtolpnfdegjdibaaDoor
open Go Go.RowKit
set_option linter.unusedVariables false

section
variable {P : Program} {nt : Nat} {sch : Sch} {n : Nat}
/-- The code c lays defaults into the part whose address lies in slot 0, into cells from n on. -/
def DefW (P : Program) (nt n : Nat) (sch : Sch) (c : Code) : Prop := ∀ (w : World) (b o T : Nat) (cs : List Value) (a : Act) (Q : Exit → Act → World → Prop), a.tmps.size = nt → a.defers = [] → aget a 0 = .pointer (some ⟨b, o, none⟩) → Blk w b cs T → Fresh cs o sch →
  (∀ a' w' cs', a'.tmps.size = nt → a'.defers = [] → aget a' 0 = .pointer (some ⟨b, o, none⟩) → Blk w' b cs' T → SameOut cs cs' (o + n) (o + top sch) → Keeps [b] w w' → Fresh cs' o sch → Q .normal a' w') → c.wp P Q a w
theorem DefW.skip : DefW P nt n sch .skip := fun w b o T cs a Q h1 h2 h3 h4 h5 hq => wp_skip (hq a w cs h1 h2 h3 h4 (SameOut.refl _ _ _) (Keeps.refl _ _) h5)
theorem DefW.seq {c1 c2 : Code} (h1 : DefW P nt n sch c1) (h2 : DefW P nt n sch c2) : DefW P nt n sch (c1.seq c2) := fun w b o T cs a Q g1 g2 g3 g4 g5 hq => wp_seq (h1 w b o T cs a _ g1 g2 g3 g4 g5 fun a1 w1 cs1 k1 k2 k3 k4 k5 k6 k7 =>
  h2 w1 b o T cs1 a1 _ k1 k2 k3 k4 k7 fun a2 w2 cs2 j1 j2 j3 j4 j5 j6 j7 => hq a2 w2 cs2 j1 j2 j3 j4 (k5.trans j5 ⟨Nat.le_refl _, Nat.le_refl _⟩ ⟨Nat.le_refl _, Nat.le_refl _⟩) (k6.trans j6) j7)
/-- Cell i is none of those that must be empty. -/
def freeAt (i : Nat) : Nat → Sch → Bool
  | _, .leaf _ => true
  | p, .list _ _ _ => decide (p ≠ i)
  | p, .opt _ => decide (p ≠ i)
  | _, .done => true
  | p, .tags off => decide (p + off ≠ i)
  | p, .cons off _ _ f rest => freeAt i (p + off) f && freeAt i p rest
  | p, .ktag off _ f rest => (decide (i < p + off) || decide (p + off + top f ≤ i)) && freeAt i p rest
def leafAt (i : Nat) : Nat → Sch → Bool
  | p, .leaf .uuid => false
  | p, .leaf _ => decide (p = i)
  | p, .cons off _ _ f rest => leafAt i (p + off) f || leafAt i p rest
  | _, _ => false
theorem fresh_set {v : Value} {i o : Nat} : ∀ {s : Sch} {p : Nat} {cs : List Value}, freeAt i p s = true → Fresh cs (o + p) s → Fresh (cs.set (o + i) v) (o + p) s
  | .leaf k, p, cs, h, hF => by cases k <;> simpa only [Fresh, List.length_set] using hF
  | .list _ _ _, p, cs, h, hF => by
    simp only [freeAt, decide_eq_true_eq] at h
    simp only [Fresh] at hF ⊢
    rw [List.getElem?_set_ne (by omega)]
    exact hF
  | .opt _, p, cs, h, hF => by
    simp only [freeAt, decide_eq_true_eq] at h
    simp only [Fresh] at hF ⊢
    rw [List.getElem?_set_ne (by omega)]
    exact hF
  | .done, p, cs, h, hF => trivial
  | .tags off, p, cs, h, hF => by
    simp only [freeAt, decide_eq_true_eq] at h
    simp only [Fresh] at hF ⊢
    rw [List.getElem?_set_ne (by omega)]
    exact hF
  | .cons off lo hi f rest, p, cs, h, hF => by
    simp only [freeAt, Bool.and_eq_true] at h
    simp only [Fresh] at hF ⊢
    refine ⟨?_, fresh_set h.2 hF.2⟩
    rw [Nat.add_assoc] at hF ⊢
    exact fresh_set h.1 hF.1
  | .ktag off d f rest, p, cs, h, hF => by
    simp only [freeAt, Bool.and_eq_true, Bool.or_eq_true, decide_eq_true_eq] at h
    simp only [Fresh] at hF ⊢
    refine ⟨fun k u hk => ?_, fresh_set h.2 hF.2⟩
    have h1 := (List.getElem?_eq_some_iff.1 hk).1
    have h2 := dcells_le f d
    rw [List.getElem?_set_ne (by omega)]
    exact hF.1 k u hk
theorem leaf_lt {i o : Nat} : ∀ {s : Sch} {p : Nat} {cs : List Value}, leafAt i p s = true → Fresh cs (o + p) s → o + i < cs.length
  | .leaf k, p, cs, h, hF => by cases k <;> simp only [leafAt, decide_eq_true_eq, Bool.false_eq_true] at h <;> (subst h; exact hF)
  | .list _ _ _, p, cs, h, hF => by simp [leafAt] at h
  | .opt _, p, cs, h, hF => by simp [leafAt] at h
  | .done, p, cs, h, hF => by simp [leafAt] at h
  | .tags off, p, cs, h, hF => by simp [leafAt] at h
  | .cons off lo hi f rest, p, cs, h, hF => by
    simp only [leafAt, Bool.or_eq_true] at h
    simp only [Fresh] at hF
    rcases h with h | h
    · rw [Nat.add_assoc] at hF
      exact leaf_lt h hF.1
    · exact leaf_lt h hF.2
/-- 'v.F = c'. -/
theorem DefW.one {i t1 T' k U r y1 y2 y3 y4 : Nat} {q1 q2 q3 q4 : String} {g1 g2 g3 g4 : Array Edge} {x : Value} (hT : FieldAt P T' k i) (hU : OneCell P U) (hx : One x) (hf : (freeAt i 0 sch && leafAt i 0 sch && decide (n ≤ i) && decide (i < top sch)) = true) (hd : 0 < t1 ∧ t1 + 2 < nt) :
    DefW P nt n sch (.region r #[⟨some t1, .move (.tmp 0), y1, q1, g1, none⟩, ⟨some (t1 + 1), .nilCheck (.tmp t1), y2, q2, g2, none⟩, ⟨some (t1 + 2), .fieldAddr T' (.tmp (t1 + 1)) k, y3, q3, g3, none⟩, ⟨none, .store U (.tmp (t1 + 2)) (.const x), y4, q4, g4, none⟩] false) := by
  intro w b o T cs a Q hN hdf h0 hB hF hq
  obtain ⟨d1, d2⟩ := hd
  simp only [Bool.and_eq_true, decide_eq_true_eq] at hf
  have hlt : o + i < cs.length := leaf_lt hf.1.1.2 (by simpa using hF)
  refine wp_reg ?_
  refine wl_move h0 ?_
  refine wl_nilCheck (aget_put_same _ _ _ (by omega)) ?_
  refine wl_fieldAddr hT (aget_put_same _ _ _ (by simp only [size_put]; omega)) ?_
  rw [Addr.add_lit]
  refine wl_store (w' := w.setCell ⟨b, o + i, none⟩ x) ?_ ?_
  · rw [aget_eval, aget_put_same _ _ _ (by simp only [size_put]; omega)]
    exact run_store_blk hU hB hlt hx
  · refine wpList_nil (hq _ _ (cs.set (o + i) x) (by simp only [size_put, hN]) (by simp only [defers_put, hdf]) ?_ (hB.set _ _) ((SameOut.set cs (o + i) x).mono (by omega) (by omega)) ((Keeps.refl [b] w).setCell (by simp) _) ?_)
    · rw [aget_put_other _ _ _ _ (by omega), aget_put_other _ _ _ _ (by omega), aget_put_other _ _ _ _ (by omega)]; exact h0
    · have h := fresh_set (v := x) (i := i) (o := o) hf.1.1.1 (by simpa using hF)
      simpa using h
theorem DefW.calls {F : Nat} {fn : Func} {c : Code} (hf : P.funcs[F]? = some fn) (hb : fn.body = some c) (hnt : fn.ntmps = nt) (h1 : 0 < nt) (hr : fn.results = #[]) (h : DefW P nt n sch c) (w : World) (b o T : Nat) (cs : List Value) (hB : Blk w b cs T) (hF : Fresh cs o sch) :
    Calls P F #[.pointer (some ⟨b, o, none⟩)] w fun en w' => ∃ cs', en = .returned (.tuple #[]) ∧ Blk w' b cs' T ∧ SameOut cs cs' (o + n) (o + top sch) ∧ Keeps [b] w w' ∧ Fresh cs' o sch := by
  refine calls_of_wp hf hb ?_
  rw [hnt]
  refine h w b o T cs _ _ ?_ rfl ?_ hB hF fun a' w' cs' k1 k2 k3 k4 k5 k6 k7 => ?_
  · simp; omega
  · simp [aget, Array.getD_eq_getD_getElem?, Array.getElem?_append]
  · exact bodyPost_end (results_none hr _ _ _) k2 ⟨cs', rfl, k4, k5, k6, k7⟩
theorem DefW.defC {F : Nat} {fn : Func} {c : Code} (hf : P.funcs[F]? = some fn) (hb : fn.body = some c) (hnt : fn.ntmps = nt) (h1 : 0 < nt) (hr : fn.results = #[]) (h : DefW P nt 0 sch c) : DefC P F sch :=
  fun w b o T cs hB hF => h.calls hf hb hnt h1 hr w b o T cs hB hF
theorem DefW.defT {F off0 : Nat} {fn : Func} {c : Code} (hf : P.funcs[F]? = some fn) (hb : fn.body = some c) (hnt : fn.ntmps = nt) (h1 : 0 < nt) (hr : fn.results = #[]) (h : DefW P nt n sch c) (hn : off0 < n) (w : World) (b o T : Nat) (cs : List Value) (hB : Blk w b cs T) (hF : Fresh cs o sch) : DefT P F b o T off0 sch w :=
  (h.calls hf hb hnt h1 hr w b o T cs hB hF).mono fun en w' ⟨cs', k1, k2, k3, k4, k5⟩ => ⟨cs', k1, k2, k4, k5, by rw [k2.cell, hB.cell, k3.out _ (.inl (by omega))]⟩
end
end Go.Proofs.YtolpnfdegjdibaaDoor

/- Sixteen octets: read, laid into a part. -/
namespace Go.Proofs.YtolpnfdegjdibaaDoor
open Go Go.RowKit
set_option linter.unusedVariables false

theorem span16 : rdSpan 16 = rdTake 16 := rfl
section
variable {RT : RTags} {P : Program} {N nt gE : Nat} {E : Value} {K : Slots} {lo t : Nat} {ver : Int} {flex : Bool}
/-- What is asked of the function that reads sixteen octets. -/
def UuidRd (P : Program) (F : Nat) : Prop := RdC P F (rdTake 16) (fun O w v s => v = .agg (s.map byteV).toArray) (fun v => ∃ l : List UInt8, l.length = 16 ∧ v = .agg (l.map byteV).toArray)
theorem take_len {k : Nat} {bs s r : List UInt8} (h : rdTake k bs = some (s, r)) : s.length = k := by
  unfold rdTake at h
  split at h
  · cases h; simp; omega
  · cases h
/-- The cells of a block with a row laid into it. -/
def laid (cs : List Value) (i : Nat) (l : List Value) : List Value := cs.take i ++ l ++ cs.drop (i + l.length)
theorem SameOut.laid (cs : List Value) (i : Nat) (l : List Value) (h : i + l.length ≤ cs.length) : SameOut cs (laid cs i l) i (i + l.length) := by
  refine ⟨by simp [Proofs.YtolpnfdegjdibaaDoor.laid]; omega, fun k hk => ?_⟩
  unfold Proofs.YtolpnfdegjdibaaDoor.laid
  rcases hk with hk | hk
  · rw [List.append_assoc, List.getElem?_append_left (by simp; omega), List.getElem?_take_of_lt hk]
  · rw [List.getElem?_append_right (by simp; omega), List.getElem?_drop]
    congr 1
    simp
    omega
theorem laid_get (cs : List Value) (i : Nat) (l : List Value) (h : i + l.length ≤ cs.length) (j : Nat) (hj : j < l.length) : (laid cs i l)[i + j]? = l[j]? := by
  unfold laid
  rw [List.append_assoc, List.getElem?_append_right (by simp; omega), List.getElem?_append_left (by simp; omega)]
  congr 1
  simp
  omega
theorem run_store_many_at {U n : Nat} (hU : ManyCells P U n) {w : World} {b i T : Nat} {cs : List Value} (hB : Blk w b cs T) {l : List Value} (hl : l.length = n) (hi : i + n ≤ cs.length) (h1 : ∀ v ∈ l, v.oneCell' = true) :
    (Instr.storeAt U (.pointer (some ⟨b, i, none⟩)) (.agg l.toArray)).run P w = .ok () (w.setRow b (laid cs i l).toArray) := by
  obtain ⟨it, z, hit, hs, -, -⟩ := hU.info
  have h := run_storeCells_at P b i T l 0 cs.toArray w hB (by simp; omega) h1
  simp only [Nat.add_zero] at h
  simp [Instr.storeAt, Instr.sureAddr, storeVar, sizeOf, typeInfo, hit, Value.cells, hl, hs, h, laid]
theorem bytes_one (l : List UInt8) : ∀ x ∈ l.map byteV, x.oneCell' = true := by
  intro x hx
  obtain ⟨_, _, rfl⟩ := List.mem_map.1 hx
  rfl
theorem Keeps.setRow {O : List Nat} {a w : World} {g : Nat} (h : Keeps O a w) (hg : g ∈ O ∨ a.heap.size ≤ g) (cs : Array Value) : Keeps O a (w.setRow g cs) :=
  ⟨h.os, h.tape, h.output, by simpa [World.setRow] using h.size, fun k hk ho => (setRow_other w g k cs (by rintro rfl; rcases hg with x | x; exact ho x; omega)).trans (h.block k hk ho)⟩
theorem rdF_uuid {s bp rs v t1 t2 F T' k U off r r' y1 y2 y3 y4 y5 y6 y7 y8 : Nat} {q1 q2 q3 q4 q5 q6 q7 q8 : String} {g1 g2 g3 g4 g5 g6 g7 g8 : Array Edge} {at_ : Array TypeId}
    (hk : KOK N lo t ((s, .int .i64 0) :: (bp, .int .i64 0) :: K)) (hT : FieldAt P T' k off) (hU : ManyCells P U 16) (he : Enters P F) (hC : UuidRd P F) (hD : Dims N nt lo t) (hd : t ≤ t1 ∧ t1 < nt ∧ lo ≤ v ∧ v < N ∧ t ≤ t2 ∧ t2 + 3 < nt ∧ bp < lo ∧ s < lo) :
    RdF RT P N nt gE E ver flex K lo t s bp rs ((Code.region r #[⟨some t1, .call { callee := .value (.func F), args := #[.tmp bp], argTypes := at_ }, y1, q1, g1, none⟩, ⟨some v, .alloc U, y2, q2, g2, none⟩, ⟨none, .store U (.tmp v) (.tmp t1), y3, q3, g3, none⟩] false).seq
      (.region r' #[⟨some t2, .move (.tmp s), y4, q4, g4, none⟩, ⟨some (t2 + 1), .load U (.tmp v), y5, q5, g5, none⟩, ⟨some (t2 + 2), .nilCheck (.tmp t2), y6, q6, g6, none⟩, ⟨some (t2 + 3), .fieldAddr T' (.tmp (t2 + 2)) k, y7, q7, g7, none⟩,
        ⟨none, .store U (.tmp (t2 + 3)) (.tmp (t2 + 1)), y8, q8, g8, none⟩] false)) off (.leaf .uuid) := by
  intro O rb b o Tb a w cs st Q hN hh hst hF hq hr
  obtain ⟨d1, d2, d3, d4, d5, d6, d7, d8⟩ := hd
  have x1 := hD.dOne; have x2 := hD.dLo; have x3 := hD.dT; have x4 := hD.dN
  have hF' : o + off + 16 ≤ cs.length := hF
  refine wp_seq (wp_reg ?_)
  refine wl_call (R := RdPost (rdTake 16) (fun O w v s => v = .agg (s.map byteV).toArray) (fun v => ∃ l : List UInt8, l.length = 16 ∧ v = .agg (l.map byteV).toArray) O rb w st) he ?_ ?_
  · simp only [List.map_toArray, List.map_cons, List.map_nil, aget_eval]
    rw [hh.tail.head]
    exact hC O rb w st hst.rbO hst.lt hst.rdr
  rintro en w1 ⟨x, rfl, hr1, hk1, hbad, hgood⟩
  refine ⟨_, rfl, ?_⟩
  obtain ⟨l, hl16, hxl, hgl⟩ : ∃ l : List UInt8, l.length = 16 ∧ x = .agg (l.map byteV).toArray ∧ ∀ s r, st.bind (rdTake 16) = some (s, r) → s = l := by
    cases hx : st.bind (rdTake 16) with
    | none =>
      obtain ⟨l, h1, h2⟩ := hbad hx
      exact ⟨l, h1, h2, fun s r h => by cases h⟩
    | some q =>
      refine ⟨q.1, ?_, hgood q.1 q.2 hx, fun s r h => by cases h; rfl⟩
      cases st with
      | none => cases hx
      | some bs => exact take_len (r := q.2) hx
  subst hxl
  have hst1 := hst.call hr1 hk1
  obtain ⟨z, hz, hza⟩ := run_alloc_many (P := P) hU w1
  refine wl_value (v := .pointer (some ⟨w1.heap.size, 0, none⟩)) (w' := w1.alloc (.cells z U)) rfl (by simp [execOp, hza]) ?_
  have hg : (w1.alloc (.cells z U)).heap[w1.heap.size]? = some (.cells z U (0, 0)) := heap_alloc_new w1 _
  refine wl_store (w' := (w1.alloc (.cells z U)).setRow w1.heap.size (l.map byteV).toArray) ?_ ?_
  · rw [aget_eval, aget_eval, aget_put_same _ _ _ (by simp only [size_put]; omega), aget_put_other _ _ _ t1 (by omega), aget_put_same _ _ _ (by omega)]
    exact run_store_many (P := P) hU hg hz (l := l.map byteV) (by simpa using hl16) (bytes_one l)
  refine wpList_nil ?_
  have hf1 : Fr N lo t nt a ((a.put (some t1) (.agg (l.map byteV).toArray)).put (some v) (.pointer (some ⟨w1.heap.size, 0, none⟩))) := ((Fr.refl N lo t nt a).put _ _ (by omega)).put _ _ (by omega)
  have hv1 : aget ((a.put (some t1) (.agg (l.map byteV).toArray)).put (some v) (.pointer (some ⟨w1.heap.size, 0, none⟩))) v = .pointer (some ⟨w1.heap.size, 0, none⟩) := aget_put_same _ _ _ (by simp only [size_put]; omega)
  generalize ((a.put (some t1) (.agg (l.map byteV).toArray)).put (some v) (.pointer (some ⟨w1.heap.size, 0, none⟩))) = a1 at *
  have hN1 := hf1.size.trans hN
  have hh1 := hh.frR (kokR hk) hD hf1
  have hk2 : Keeps [] w1 ((w1.alloc (.cells z U)).setRow w1.heap.size (l.map byteV).toArray) := Keeps.setRow ((Keeps.refl [] w1).alloc _) (.inr (Nat.le_refl _)) _
  have hbl : Blk ((w1.alloc (.cells z U)).setRow w1.heap.size (l.map byteV).toArray) w1.heap.size (l.map byteV) U := setRow_heap _ _ _ _ _ _ hg
  generalize ((w1.alloc (.cells z U)).setRow w1.heap.size (l.map byteV).toArray) = w2 at *
  have hst2 := hst1.upd (hst1.blk.keeps hk2 (by simp)) (hk2.mono (by simp))
  simp only [Exit.then]
  refine wp_reg ?_
  refine wl_move hh1.head ?_
  refine wl_value (v := .agg (l.map byteV).toArray) (w' := w2) rfl ?_ ?_
  · have e2 : (a1.put (some t2) (.pointer (some ⟨b, o, none⟩))).eval (.tmp v) = .pointer (some ⟨w1.heap.size, 0, none⟩) := (aget_put_other _ _ _ _ (by omega)).trans hv1
    have := run_load_many (P := P) hU (w := w2) (ad := ⟨w1.heap.size, 0, none⟩) (l := l.map byteV) (by simpa using hl16) (fun j x hx => by
      rw [Addr.add_lit, Nat.zero_add, hbl.cell]; exact hx)
    simp [execOp, e2, this]
  refine wl_nilCheck (ad := ⟨b, o, none⟩) (by rw [aget_put_other _ _ _ t2 (by omega)]; exact aget_put_same _ _ _ (by omega)) ?_
  refine wl_fieldAddr hT (aget_put_same _ _ _ (by simp only [size_put]; omega)) ?_
  rw [Addr.add_lit]
  have hl16' : (l.map byteV).length = 16 := by simpa using hl16
  refine wl_store (w' := w2.setRow b (laid cs (o + off) (l.map byteV)).toArray) ?_ ?_
  · rw [aget_eval, aget_eval, aget_put_same _ _ _ (by simp only [size_put]; omega), aget_put_other _ _ _ (t2 + 1) (by omega), aget_put_other _ _ _ (t2 + 1) (by omega), aget_put_same _ _ _ (by simp only [size_put]; omega)]
    exact run_store_many_at hU hst2.blk hl16' hF' (bytes_one l)
  have hb3 : Blk (w2.setRow b (laid cs (o + off) (l.map byteV)).toArray) b (laid cs (o + off) (l.map byteV)) Tb := setRow_heap _ _ _ _ _ _ hst2.blk
  have hk3 : Keeps [b] w2 (w2.setRow b (laid cs (o + off) (l.map byteV)).toArray) := Keeps.setRow (Keeps.refl [b] w2) (.inl (by simp)) _
  have hso := SameOut.laid cs (o + off) (l.map byteV) (by omega)
  have est : ((st.bind (rd ver flex (.leaf .uuid))).map (·.2)) = ((st.bind (rdTake 16)).map (·.2)) := by
    change (st.bind ((rdTake 16).bind fun s => Pr.pure (GV.bytes s))).map _ = _
    rw [bind_st]
    cases st.bind (rdTake 16) <;> rfl
  refine wpList_nil (hq _ _ (laid cs (o + off) (l.map byteV)) ?_ (hf1.trans (((((Fr.refl N lo t nt a1).put _ _ (by omega)).put _ _ (by omega)).put _ _ (by omega)).put _ _ (by omega))) ?_ ?_ fun gv r hv => ?_)
  · rw [est]
    exact hst2.upd hb3 hk3
  · exact ((keeps_rb hk1).trans (hk2.mono (by simp))).trans (hk3.mono (by simp))
  · rw [hl16'] at hso; exact hso
  · have hv' : ∃ q, st.bind (rdTake 16) = some q ∧ gv = .bytes q.1 := by
      change st.bind ((rdTake 16).bind fun s => Pr.pure (GV.bytes s)) = _ at hv
      rw [bind_st] at hv
      cases hx : st.bind (rdTake 16) with
      | none => rw [hx] at hv; cases hv
      | some q =>
        rw [hx] at hv
        simp only [Option.bind_some, Pr.pure, Option.some.injEq, Prod.mk.injEq] at hv
        exact ⟨q, rfl, hv.1.symm⟩
    obtain ⟨q, hx, rfl⟩ := hv'
    have hql := hgl q.1 q.2 hx
    rw [hql]
    refine ⟨hl16, fun i u hi => ?_⟩
    have hlt : i < l.length := (List.getElem?_eq_some_iff.1 hi).1
    rw [hb3.cell, laid_get cs (o + off) (l.map byteV) (by omega) i (by simp; omega), List.getElem?_map, hi]
    rfl
end
end Go.Proofs.YtolpnfdegjdibaaDoor

/- The reader's Uuid. -/
namespace Go.Proofs.YtolpnfdegjdibaaDoor
open Go Go.RowKit
set_option linter.unusedVariables false
abbrev z16 : List Value := List.replicate 16 (.int .u8 0)
theorem spanVal {O : List Nat} {rb : Nat} {w : World} {st : Option (List UInt8)} {e : Ending} {w' : World} (h : RdPost (rdSpan 16) (fun O w v s => RB O w v s) (fun v => v = .slice none 0 0) O rb w st e w') :
    ∃ (sp : Option Addr) (n cap : Nat) (cs : List Value), e = .returned (.slice sp n cap) ∧ cs.length = Nat.min n 16 ∧ (0 < cs.length → ∃ ad, sp = some ad ∧ ∀ j v, cs[j]? = some v → w'.cell? (ad.add j) = some v) ∧ cs.length ≤ 16 ∧ (∀ v ∈ cs, v.oneCell' = true) ∧
      (∃ l : List UInt8, l.length = 16 ∧ splice z16 0 cs = l.map byteV ∧ ∀ s r, st.bind (rdTake 16) = some (s, r) → s = l) ∧ Rdr O w' rb ((st.bind (rdTake 16)).map (·.2)) ∧ Keeps [rb] w w' := by
  obtain ⟨v, rfl, h1, h2, h3, h4⟩ := h
  rw [span16] at h1 h3 h4
  cases hx : st.bind (rdTake 16) with
  | none =>
    obtain rfl := h3 hx
    refine ⟨none, 0, 0, [], rfl, rfl, fun h => absurd h (by simp), by simp, by simp, ⟨List.replicate 16 0, by simp, ?_, fun s r h => by cases h⟩, by rw [hx] at h1; exact h1, h2⟩
    rfl
  | some q =>
    have hl : q.1.length = 16 := by
      cases st with
      | none => cases hx
      | some bs => exact take_len (r := q.2) hx
    obtain ⟨a, cap, rfl, -, -, hc⟩ := h4 q.1 q.2 hx
    refine ⟨a, q.1.length, cap, q.1.map byteV, rfl, by rw [List.length_map, hl]; rfl, fun _ => ?_, by rw [List.length_map, hl]; exact Nat.le_refl _, bytes_one _, ⟨q.1, hl, ?_, fun s r h => by cases h; rfl⟩, by rw [hx] at h1; exact h1, h2⟩
    · obtain ⟨b, o, rfl, -, hcell⟩ := hc (by intro h; rw [h] at hl; cases hl)
      refine ⟨_, rfl, fun j v hj => ?_⟩
      rw [List.getElem?_map] at hj
      cases hq : q.1[j]? with
      | none => rw [hq] at hj; cases hj
      | some u => rw [hq] at hj; cases hj; rw [Addr.add_lit]; exact hcell j u hq
    · unfold splice
      rw [List.length_map, hl]
      simp
/-- 'copy' into a block: all else stays. -/
theorem step_copy_keep {P : Program} {ops : Array Oper} {o : Oper} {a : Act} {w : World} {K : Act → World → Prop} {Q : Exit → Act → World → Prop} {E : Prop} (hgd : o.guard = none) (d s : Operand) (dT sT : TypeId)
    (ho : o.op = .call { callee := .builtin .copy, args := #[d, s], argTypes := #[dT, sT] }) (elem : TypeId) (hu : P.underlying dT = some (.slice elem)) (hsz : (P.info? elem).map (·.size) = some 1)
    (dp sp : Option Addr) (dLen dCap sLen sCap : Nat) (hd : a.eval d = .slice dp dLen dCap) (hs : a.eval s = .slice sp sLen sCap)
    (g : Nat) (cur : List Value) (t : TypeId) (hg : w.heap[g]? = some (.cells cur.toArray t (0, 0))) (cs : List Value) (hn : cs.length = Nat.min sLen dLen)
    (hpos : 0 < cs.length → dp = some ⟨g, 0, none⟩ ∧ ∃ ad, sp = some ad ∧ ∀ j v, cs[j]? = some v → w.cell? (ad.add j) = some v)
    (hfit : cs.length ≤ cur.length) (h1 : ∀ v ∈ cs, v.oneCell' = true)
    (h : ∀ w', RowKit.Hid (w'.heap[g]? = some (.cells (splice cur 0 cs).toArray t (0, 0))) → Keeps [g] w w' → K (a.put o.dst (goInt cs.length)) w') :
    if Region.wanted o (yielded ops a.tmps) = true then Oper.wp P o a w K Q else E := by
  have hw : Region.wanted o (yielded ops a.tmps) = true := by simp [Region.wanted, hgd]
  rw [if_pos hw]
  by_cases h0 : cs.length = 0
  · obtain rfl : cs = [] := List.eq_nil_of_length_eq_zero h0
    have hrun := run_copy_none (P := P) w dT sT o.type elem dp sp dLen dCap sLen sCap hu hsz (by simpa using hn.symm)
    unfold Oper.wp
    simp [execOp, ho, resolve, invoke, builtin, hd, hs, hrun, Result.andThen]
    exact h w (show _ = _ by simpa [splice] using hg) (Keeps.refl _ _)
  · obtain ⟨rfl, ad, rfl, hsrc⟩ := hpos (by omega)
    have hrun := run_copy_row (P := P) w dT sT o.type elem g 0 dLen dCap ad sLen sCap cur.toArray t cs hu hsz hg hn hsrc (by simpa using hfit) h1
    unfold Oper.wp
    simp [execOp, ho, resolve, invoke, builtin, hd, hs, hrun, Result.andThen]
    exact h _ (show _ = _ by simpa [splice] using setRow_heap w g _ _ t _ hg) (Keeps.setRow (Keeps.refl _ _) (.inl (by simp)) _)
theorem results_cellN {fn : Func} {t U n : Nat} {P : Program} {w : World} {ad : Addr} {l : List Value} {tmps : Array Value} (h : fn.results = #[.cell t U]) (ht : tmps.getD t undef = .pointer (some ad)) (hU : ManyCells P U n) (hl : l.length = n) (hc : ∀ j v, l[j]? = some v → w.cell? (ad.add j) = some v) :
    (results fn tmps).run P w = .ok (.agg l.toArray) w := by
  have h1 := run_load_many (P := P) hU (w := w) (ad := ad) hl hc
  have h2 : (loadVar U ad).run P w = .ok (.agg l.toArray) w := by simpa [Instr.loadAt, Instr.sureAddr] using h1
  have h3 : tmps[t]?.getD undef = .pointer (some ad) := by simpa using ht
  simp [results, h, h3, asAddr, h2]
set_option maxRecDepth 100000 in
set_option maxHeartbeats 2000000 in
theorem rUuid : UuidRd Tryd.prog 44 := by
  intro O rb w st hO hlt h
  have hb2 : Blk ((w.alloc (.cells z16.toArray 56)).alloc (.cells z16.toArray 56)) w.heap.size z16 56 := by
    have h0 : Blk (w.alloc (.cells z16.toArray 56)) w.heap.size z16 56 := heap_alloc_new w _
    exact h0.keeps ((Keeps.refl [] _).alloc _) (by simp)
  have hb3 : Blk ((w.alloc (.cells z16.toArray 56)).alloc (.cells z16.toArray 56)) (w.heap.size + 1) z16 56 := by
    have h0 : Blk ((w.alloc (.cells z16.toArray 56)).alloc (.cells z16.toArray 56)) (w.alloc (.cells z16.toArray 56)).heap.size z16 56 := heap_alloc_new _ _
    simpa using h0
  have hk2 : Keeps [] w ((w.alloc (.cells z16.toArray 56)).alloc (.cells z16.toArray 56)).drew := (((Keeps.refl [] w).alloc _).alloc _).drew
  have C := Lib.hid (rSpan ((w.heap.size + 1) :: w.heap.size :: O) rb ((w.alloc (.cells z16.toArray 56)).alloc (.cells z16.toArray 56)).drew st 16 (by simp [hO]) (by intro k hk; simp only [List.mem_cons] at hk; rcases hk with rfl | rfl | hk; exact hb3.lt; exact hb2.lt; exact Nat.lt_of_lt_of_le (hlt k hk) hk2.size) (((h.open (Nat.le_refl _)).open (Nat.le_succ _)).other hk2 (by simp) (by simp)))
  have H := Lib.hid (And.intro hO (And.intro hlt (And.intro h (And.intro hb2 (And.intro hb3 hk2)))))
  have hz := hb3
  unfold Blk at hz
  clear hO hlt h hb2 hb3 hk2
  go_enter Tryd.func44, Tryd.ntmps44
  go_wp2_with fail
  go_region_held3 (fun w' => ∃ c : Array Value, w'.heap[w.heap.size + 1]? = some (.cells c 56 (0, 0))) (first | exact ⟨_, hg4.out⟩ | exact ⟨_, hS3⟩ | exact ⟨_, hz⟩)
    (first
      | (go_at_call 43; refine C.out.mono ?_; intro e w1 hp; obtain ⟨sp, n, cap, cs, rfl, hn, hpos, hc16, hone, hl, hr1, hk1⟩ := spanVal hp; have hS3 : w1.heap[w.heap.size + 1]? = some (.cells z16.toArray 56 (0, 0)) := (hk1.block _ (Blk.lt H.out.2.2.2.2.1) (by have := H.out.2.1 rb H.out.1; rw [List.mem_singleton]; omega)).trans H.out.2.2.2.2.1)
      | (refine step_copy_keep rfl (.tmp 4) (.tmp 6) 22 22 rfl 5 Tryd.underlying22 (by kernel_rfl) _ _ _ _ _ _ rfl rfl (w.heap.size + 1) z16 56 hS3 cs hn (fun h => ⟨rfl, hpos h⟩) (by simpa using hc16) hone ?_; intro w4 hg4 hb4))
  obtain ⟨l, hl16, hsp, hlu⟩ := hl
  have hmc : ManyCells Tryd.prog 56 16 := ⟨fun w => Tryd.isAgg56 w, ⟨Tryd.t56, _, by kernel_rfl, rfl, rfl, rfl⟩⟩
  have hb3 : Blk w4 (w.heap.size + 1) (l.map byteV) 56 := by have h := hg4.out; rw [hsp] at h; exact h
  have hb2 : Blk w4 w.heap.size z16 56 := (hb4.block _ (Nat.lt_of_lt_of_le (Blk.lt H.out.2.2.2.1) hk1.size) (by simp)).trans ((hk1.block _ (Blk.lt H.out.2.2.2.1) (by have := H.out.2.1 rb H.out.1; rw [List.mem_singleton]; omega)).trans H.out.2.2.2.1)
  have hll : (l.map byteV).length = 16 := by simpa using hl16
  have hload : (Instr.loadAt 56 (.pointer (some ⟨w.heap.size + 1, 0, none⟩))).run Tryd.prog w4 = .ok (.agg (l.map byteV).toArray) w4 := run_load_many hmc hll (fun j v hj => by rw [Addr.add_lit, Nat.zero_add, hb3.cell]; exact hj)
  have hstore : (Instr.storeAt 56 (.pointer (some ⟨w.heap.size, 0, none⟩)) (.agg (l.map byteV).toArray)).run Tryd.prog w4 = .ok () (w4.setRow w.heap.size (l.map byteV).toArray) := run_store_many hmc hb2 rfl hll (bytes_one l)
  have Y := Lib.hid (And.intro hb2 (And.intro hb4 (And.intro hr1 (And.intro hk1 (And.intro hlu hl16)))))
  have HM := Lib.hid hmc
  clear hb2 hb3 hb4 hr1 hk1 hlu hl16 hsp hg4 hS3 hpos hone hc16 hn hz C hmc
  simp only [Exit.then]
  apply ‹∀ (a : Act) (w_1 : World), Code.wp _ _ _ a w_1 → _›
  refine wp_seq (wp_reg ?_)
  refine wl_value (v := .agg (l.map byteV).toArray) (w' := w4) rfl ?_ ?_
  · simp only [execOp]
    have e : ∀ A : Act, A.eval (.tmp 3) = .pointer (some ⟨w.heap.size + 1, 0, none⟩) → (execOp A.eval ⟨some 8, .load 56 (.tmp 3), 56, "", #[], none⟩).run Tryd.prog w4 = .ok (.value (.agg (l.map byteV).toArray)) w4 := fun A hA => by simp [execOp, hA, hload]
    exact e _ rfl
  refine wl_store (w' := w4.setRow w.heap.size (l.map byteV).toArray) hstore ?_
  refine wpList_nil (wp_ret ?_)
  have hr4 : Blk (w4.setRow w.heap.size (l.map byteV).toArray) w.heap.size (l.map byteV) 56 := setRow_heap _ _ _ _ _ _ Y.out.1
  refine bodyPost_ret (v := .agg (l.map byteV).toArray) (results_cellN (ad := ⟨w.heap.size, 0, none⟩) rfl rfl HM.out hll (fun j v hj => by rw [Addr.add_lit, Nat.zero_add, hr4.cell]; exact hj)) rfl ?_
  have hrb := H.out.2.1 rb H.out.1
  have kk : Keeps [w.heap.size + 1, w.heap.size] w1 (w4.setRow w.heap.size (l.map byteV).toArray) := Keeps.setRow (Y.out.2.1.mono (by simp)) (.inl (by simp)) _
  have kw : Keeps [w.heap.size + 1, w.heap.size, rb] w (w4.setRow w.heap.size (l.map byteV).toArray) := (((H.out.2.2.2.2.2.mono (O' := [rb]) (by simp)).trans Y.out.2.2.2.1).mono (O' := [w.heap.size + 1, w.heap.size, rb]) (by simp)).trans (kk.mono (by simp))
  refine ⟨_, rfl, ?_, ((kw.close (Nat.le_succ _)).close (Nat.le_refl _)), fun _ => ⟨l, Y.out.2.2.2.2.2, rfl⟩, fun x r hx => ?_⟩
  · exact (Y.out.2.2.1.other kk (by simp; omega) (by simp)).mono (by simp; exact fun k hk => .inr (.inr hk))
  · rw [Y.out.2.2.2.2.1 x r hx]
end Go.Proofs.YtolpnfdegjdibaaDoor

/- What readgen.py's texts lean on. -/
namespace Go.Proofs.YtolpnfdegjdibaaDoor
open Go Go.RowKit
theorem kokD {N lo t : Nat} {K : Slots} (h : (K.map (·.1)).all (fun a => decide (a ≠ 1) && (decide (a < lo) || (decide (N ≤ a) && decide (a < t)))) = true) : KOK N lo t K := by
  intro p hp
  have h1 := List.all_eq_true.1 h p.1 (List.mem_map_of_mem hp)
  simp only [Bool.and_eq_true, Bool.or_eq_true, decide_eq_true_eq] at h1
  exact h1
theorem mcReader : ManyCells Tryd.prog 67 2 := ⟨fun w => Tryd.isAgg67 w, ⟨Tryd.t67, _, by kernel_rfl, rfl, rfl, rfl⟩⟩
end Go.Proofs.YtolpnfdegjdibaaDoor

/- The law's own helpers; what is read and written again. -/
namespace Go.Proofs.YtolpnfdegjdibaaDoor
open Go Go.RowKit
set_option linter.unusedVariables false

/-- What is read of any octets is written as octets that are read again, and written as the same. -/
theorem anyLaw {ver : Int} {flex : Bool} {s : Sch} {bs r : List UInt8} {v : GV} (hok : okS ver flex s = true) (hb : bs.length ≤ 1000) (h : rd ver flex s bs = some (v, r)) :
    (ap ver flex s v).length ≤ 1000 ∧ ∃ v', rd ver flex s (ap ver flex s v) = some (v', []) ∧ ap ver flex s v' = ap ver flex s v := by
  obtain ⟨h1, h2⟩ := rd_out ver flex s hok (by unfold M; omega) h
  obtain ⟨v', -, h4, h5⟩ := rd_ap ver flex s v hok h1
  refine ⟨by omega, v', ?_, h4⟩
  have := h5 []
  rwa [List.append_nil] at this
theorem Own.rl' {base : Nat} {w : World} {v : Value} {bs : List UInt8} (h : Own base w v bs) : RL w.heap.size w v bs := (h.rb [] (by simp)).rl
/-- What Again answers. -/
def AgainPost (ver : Int) (flex : Bool) (s : Sch) (bs : List UInt8) (w : World) (e : Ending) (w' : World) : Prop :=
  Below w.heap.size w w' ∧ (rd ver flex s bs = none → e = .returned (.tuple #[.slice none 0 0, .bool false])) ∧ ∀ v r, rd ver flex s bs = some (v, r) → ∃ x, e = .returned (.tuple #[x, .bool true]) ∧ Own w.heap.size w' x (ap ver flex s v)
set_option maxRecDepth 100000 in
set_option maxHeartbeats 1600000 in
theorem sameOK (bs : List UInt8) (x y : Value) (B base : Nat) (w : World) (hb : base ≤ w.heap.size) (hx : RL B w x bs) (hy : RL B w y bs) (hBw : B ≤ base) : Calls Tryd.prog 7 #[x, y] w fun e w' => e = .returned (.bool true) ∧ Below base w w' := by
  obtain ⟨a, cap, rfl, h1, h2, h3⟩ := hx
  obtain ⟨a', cap', rfl, h1', h2', h3'⟩ := hy
  by_cases hne : bs = []
  · subst hne
    clear h3 h3'
    go_enter Tryd.func7, Tryd.ntmps7
    go_wp2_with fail
    refine wp_loop_rounds 1 ?_
    rw [rounds_succ]
    go_wp2
    go_ret
    exact ⟨rfl, Below.refl _ _⟩
  obtain ⟨p, q, rfl, hp, hc⟩ := h3 hne
  obtain ⟨p', q', rfl, hp', hc'⟩ := h3' hne
  have H := Lib.hid (And.intro hc hc')
  clear hc hc' h3 h3' hne
  obtain ⟨n, hn⟩ : ∃ n, bs.length = n := ⟨_, rfl⟩
  rw [hn] at h1 h1' ⊢
  go_enter Tryd.func7, Tryd.ntmps7
  go_wp2_with fail
  go_loopw [13] (fun i wr => ∃ k : Nat, k ≤ n ∧ i = .int .i64 k ∧ Below base w wr) (fun i _ => n - numOf i)
  case atStart => exact ⟨0, Nat.zero_le _, rfl, Below.refl _ _⟩
  case round =>
    obtain ⟨k, hk, rfl, hbk⟩ := hrel
    by_cases hkn : k < n
    · obtain ⟨u, hu⟩ : ∃ u, bs[k]? = some u := ⟨bs[k], List.getElem?_eq_getElem (by omega)⟩
      have c1 := (hbk.cell (p := ⟨p, q + k, none⟩) (by show p < base; omega)).trans (H.out.1 k u hu)
      have c2 := (hbk.cell (p := ⟨p', q' + k, none⟩) (by show p' < base; omega)).trans (H.out.2 k u hu)
      have FIN := Lib.hid hbk.drew
      clear hbk hu
      unfold byteV at c1 c2
      generalize (u.toNat : Int) = z at *
      go_wp2_with fail
      go_region_held3 (fun w' => w'.cell? ⟨p, q + k, none⟩ = some (.int .u8 z) ∧ w'.cell? ⟨p', q' + k, none⟩ = some (.int .u8 z)) (first | exact ⟨c1, c2⟩) (first | fail)
      go_wp2
      go_roundw
      case rel => exact ⟨k + 1, by omega, by go_num, FIN.out⟩
      case measure => simp [numOf]; omega
    · have : k = n := by omega
      subst this
      go_wp2
      go_ret
      exact ⟨rfl, hbk⟩

set_option maxHeartbeats 400000 in
theorem versionOK (n most : Int) (h0 : 0 ≤ n) (h1 : n ≤ 255) (h2 : 0 ≤ most) (h3 : most ≤ 255) (w : World) : Calls Tryd.prog 6 #[.int .u8 n, .int .i64 most] w fun e w' => e = .returned (.int .i64 (n % (most + 1))) ∧ w = w' := by
  go_enter Tryd.func6, Tryd.ntmps6
  go_wp2
  go_ret
  exact ⟨rfl, rfl⟩
end Go.Proofs.YtolpnfdegjdibaaDoor

/- A part within a part. -/
namespace Go.Proofs.YtolpnfdegjdibaaDoor
open Go Go.RowKit
set_option linter.unusedVariables false

section
variable {RT : RTags} {P : Program} {N nt gE : Nat} {E : Value} {K : Slots} {lo t : Nat} {ver : Int} {flex : Bool}
/-- 'v := &s.F; v.Default(); s := v; ..'. -/
theorem rdF_part {s bp rs v s2 t1 t2 t3 FD Tm kf off r1 r2 r3 y1 y2 y3 y4 y5 y6 y7 y8 lo' t' : Nat} {q1 q2 q3 q4 q5 q6 q7 q8 : String} {g1 g2 g3 g4 g5 g6 g7 g8 : Array Edge} {at_ : Array TypeId} {c : Code} {sch : Sch}
    (hk : KOK N lo t ((bp, .int .i64 0) :: K)) (hT : FieldAt P Tm kf off) (he : Enters P FD) (hDef : DefC P FD sch) (hD : Dims N nt lo t) (hD' : Dims N nt lo' t')
    (hd : t ≤ t1 ∧ t1 + 2 < nt ∧ t ≤ t2 ∧ t2 + 1 < nt ∧ t ≤ t3 ∧ t3 < nt ∧ lo ≤ v ∧ v < N ∧ lo ≤ s2 ∧ s2 < N ∧ lo ≤ lo' ∧ t ≤ t' ∧ v ≠ s2) (h : RdS RT P N nt gE E ver flex K lo' t' s2 bp rs c 0 sch) :
    RdF RT P N nt gE E ver flex K lo t s bp rs ((Code.region r1 #[⟨some t1, .move (.tmp s), y1, q1, g1, none⟩, ⟨some (t1 + 1), .nilCheck (.tmp t1), y2, q2, g2, none⟩, ⟨some (t1 + 2), .fieldAddr Tm (.tmp (t1 + 1)) kf, y3, q3, g3, none⟩, ⟨some v, .assign (.tmp (t1 + 2)), y4, q4, g4, none⟩] false).seq
      ((Code.region r2 #[⟨some t2, .move (.tmp v), y5, q5, g5, none⟩, ⟨some (t2 + 1), .call { callee := .value (.func FD), args := #[.tmp t2], argTypes := at_ }, y6, q6, g6, none⟩] false).seq
      ((Code.region r3 #[⟨some t3, .move (.tmp v), y7, q7, g7, none⟩, ⟨some s2, .assign (.tmp t3), y8, q8, g8, none⟩] false).seq c))) off sch := by
  intro O rb b o T a w cs st Q hN hh hst hF hq hr
  obtain ⟨d1, d2, d3, d4, d5, d6, d7, d8, d9, d10, d11, d12, d13⟩ := hd
  have x1 := hD.dOne; have x2 := hD.dLo; have x3 := hD.dT; have x4 := hD.dN
  have hk' : ∀ x, KOK N lo t ((bp, x) :: K) := fun x q hq => by
    simp only [List.mem_cons] at hq
    rcases hq with rfl | hq
    · exact hk (bp, .int .i64 0) (by simp)
    · exact hk q (by simp [hq])
  refine wp_seq (wp_reg ?_)
  refine wl_move hh.head ?_
  refine wl_nilCheck (ad := ⟨b, o, none⟩) (aget_put_same _ _ _ (by omega)) ?_
  refine wl_fieldAddr hT (aget_put_same _ _ _ (by simp only [size_put]; omega)) ?_
  rw [Addr.add_lit]
  refine wl_assign (aget_put_same _ _ _ (by simp only [size_put]; omega)) ?_
  refine wpList_nil ?_
  have hf1 : Fr N lo t nt a ((((a.put (some t1) (.pointer (some ⟨b, o, none⟩))).put (some (t1 + 1)) (.pointer (some ⟨b, o, none⟩))).put (some (t1 + 2)) (.pointer (some ⟨b, o + off, none⟩))).put (some v) (.pointer (some ⟨b, o + off, none⟩))) := ((((Fr.refl N lo t nt a).put _ _ (by omega)).put _ _ (by omega)).put _ _ (by omega)).put _ _ (by omega)
  have hv1 : aget ((((a.put (some t1) (.pointer (some ⟨b, o, none⟩))).put (some (t1 + 1)) (.pointer (some ⟨b, o, none⟩))).put (some (t1 + 2)) (.pointer (some ⟨b, o + off, none⟩))).put (some v) (.pointer (some ⟨b, o + off, none⟩))) v = .pointer (some ⟨b, o + off, none⟩) := aget_put_same _ _ _ (by simp only [size_put]; omega)
  generalize ((((a.put (some t1) (.pointer (some ⟨b, o, none⟩))).put (some (t1 + 1)) (.pointer (some ⟨b, o, none⟩))).put (some (t1 + 2)) (.pointer (some ⟨b, o + off, none⟩))).put (some v) (.pointer (some ⟨b, o + off, none⟩))) = a1 at *
  have hN1 := hf1.size.trans hN
  simp only [Exit.then]
  refine wp_seq (wp_reg ?_)
  refine wl_move hv1 ?_
  refine wl_call (R := fun en w' => ∃ cs', en = .returned (.tuple #[]) ∧ Blk w' b cs' T ∧ SameOut cs cs' (o + off) (o + off + top sch) ∧ Keeps [b] w w' ∧ Fresh cs' (o + off) sch) he ?_ ?_
  · simp only [List.map_toArray, List.map_cons, List.map_nil, aget_eval]
    rw [aget_put_same _ _ _ (by omega)]
    exact hDef w b (o + off) T cs hst.blk hF
  rintro en w2 ⟨cs2, rfl, hb2, hs2, hk2, hF2⟩
  refine ⟨_, rfl, wpList_nil ?_⟩
  have hst2 := hst.upd hb2 hk2
  have hf2 : Fr N lo t nt a1 ((a1.put (some t2) (.pointer (some ⟨b, o + off, none⟩))).put (some (t2 + 1)) (.tuple #[])) := ((Fr.refl N lo t nt a1).put _ _ (by omega)).put _ _ (by omega)
  have hv2 : aget ((a1.put (some t2) (.pointer (some ⟨b, o + off, none⟩))).put (some (t2 + 1)) (.tuple #[])) v = .pointer (some ⟨b, o + off, none⟩) := by rw [aget_put_other _ _ _ v (by omega), aget_put_other _ _ _ v (by omega)]; exact hv1
  generalize ((a1.put (some t2) (.pointer (some ⟨b, o + off, none⟩))).put (some (t2 + 1)) (.tuple #[])) = a2 at *
  have hN2 := hf2.size.trans hN1
  simp only [Exit.then]
  refine wp_seq (wp_reg ?_)
  refine wl_move hv2 ?_
  refine wl_assign (aget_put_same _ _ _ (by omega)) ?_
  refine wpList_nil ?_
  have hf3 : Fr N lo t nt a2 ((a2.put (some t3) (.pointer (some ⟨b, o + off, none⟩))).put (some s2) (.pointer (some ⟨b, o + off, none⟩))) := ((Fr.refl N lo t nt a2).put _ _ (by omega)).put _ _ (by omega)
  have hs3 : aget ((a2.put (some t3) (.pointer (some ⟨b, o + off, none⟩))).put (some s2) (.pointer (some ⟨b, o + off, none⟩))) s2 = .pointer (some ⟨b, o + off, none⟩) := aget_put_same _ _ _ (by simp only [size_put]; omega)
  generalize ((a2.put (some t3) (.pointer (some ⟨b, o + off, none⟩))).put (some s2) (.pointer (some ⟨b, o + off, none⟩))) = a3 at *
  have hf03 := (hf1.trans hf2).trans hf3
  have hh3 : Holds ((bp, .pointer (some ⟨rb, 0, none⟩)) :: K) a3 := hh.tail.frR (hk' _) hD hf03
  simp only [Exit.then]
  have hkk : Keeps [rb, b] w w2 := hk2.mono (by simp)
  refine h O rb b (o + off) T a3 w2 cs2 st Q (hf03.size.trans hN) (hh3.cons hs3) hst2 hF2 (fun a4 w4 cs4 k1 k2 k3 k4 k5 => ?_) (fun a4 w4 k1 k2 k3 k4 k5 => hr a4 w4 k1 k2 (k3.trans hf03.defers) k4 (hkk.trans k5))
  exact hq a4 w4 cs4 k1 (hf03.trans (k2.mono d11 d12)) (hkk.trans k3) (hs2.trans k4 (by omega) (by omega)) k5
/-- A Default of nothing within a part: '{ v := &v.F; _ = v }'. -/
theorem DefW.sub {sch : Sch} {n i t1 v T' k r y1 y2 y3 y4 : Nat} {q1 q2 q3 q4 : String} {g1 g2 g3 g4 : Array Edge} (hT : FieldAt P T' k i) (hd : 0 < t1 ∧ t1 + 2 < nt ∧ 0 < v) :
    DefW P nt n sch (.region r #[⟨some t1, .move (.tmp 0), y1, q1, g1, none⟩, ⟨some (t1 + 1), .nilCheck (.tmp t1), y2, q2, g2, none⟩, ⟨some (t1 + 2), .fieldAddr T' (.tmp (t1 + 1)) k, y3, q3, g3, none⟩, ⟨some v, .assign (.tmp (t1 + 2)), y4, q4, g4, none⟩] false) := by
  intro w b o T cs a Q hN hdf h0 hB hF hq
  obtain ⟨d1, d2, d3⟩ := hd
  refine wp_reg ?_
  refine wl_move h0 ?_
  refine wl_nilCheck (aget_put_same _ _ _ (by omega)) ?_
  refine wl_fieldAddr hT (aget_put_same _ _ _ (by simp only [size_put]; omega)) ?_
  refine wl_assign rfl ?_
  refine wpList_nil (hq _ _ cs (by simp only [size_put, hN]) (by simp only [defers_put, hdf]) ?_ hB (SameOut.refl _ _ _) (Keeps.refl _ _) hF)
  rw [aget_put_other _ _ _ _ (by omega), aget_put_other _ _ _ _ (by omega), aget_put_other _ _ _ _ (by omega), aget_put_other _ _ _ _ (by omega)]; exact h0
theorem DefW.look {sch : Sch} {n t1 v r y1 : Nat} {q1 : String} {g1 : Array Edge} (hd : 0 < t1 ∧ t1 < nt) : DefW P nt n sch (.region r #[⟨some t1, .move (.tmp v), y1, q1, g1, none⟩] false) := by
  intro w b o T cs a Q hN hdf h0 hB hF hq
  obtain ⟨d1, d2⟩ := hd
  refine wp_reg ?_
  refine wl_move rfl ?_
  refine wpList_nil (hq _ _ cs (by simp only [size_put, hN]) (by simp only [defers_put, hdf]) ?_ hB (SameOut.refl _ _ _) (Keeps.refl _ _) hF)
  rw [aget_put_other _ _ _ _ (by omega)]; exact h0
end
end Go.Proofs.YtolpnfdegjdibaaDoor

/- Known tags, read: a tag laid into a part's own map; the reader of a tag's octets. -/
namespace Go.Proofs.YtolpnfdegjdibaaDoor
open Go Go.RowKit Go.Maps
set_option linter.unusedVariables false

theorem set_same {α : Type} : ∀ {cs : List α} {q : Nat} {x : α}, cs[q]? = some x → cs.set q x = cs
  | [], q, x, h => by simp at h
  | c :: cs, 0, x, h => by
    simp only [List.getElem?_cons_zero, Option.some.injEq] at h
    rw [h]
    rfl
  | c :: cs, q + 1, x, h => by
    rw [List.set_cons_succ, set_same (cs := cs) (by simpa using h)]
set_option maxHeartbeats 1000000 in
theorem tagsSetAt (w : World) (p q T : Nat) (cs : List Value) (m : Option Nat) (n : Nat) (D : VD) (k : Nat) (v : Value) (hB : Blk w p cs T) (hq : cs[q]? = some (.map m)) (hm : MapAt w m n D) (hn : n < maxLen) (hk : k ≤ 4294967295) (hp : ∀ g, m = some g → g ≠ p) :
    Calls Tryd.prog 42 #[.pointer (some ⟨p, q, none⟩), .int .u32 (k : Nat), v] w fun e w' => e = .returned (.tuple #[]) ∧ ∃ g, Blk w' p (cs.set q (.map (some g))) T ∧ w'.ownsMap Tryd.prog 62 R0 g (n + 1) (D.put (kl32 k) (.held v)) ∧ ((m = some g ∧ Keeps [g] w w') ∨ (m = none ∧ g = w.heap.size ∧ Keeps [p] w w')) := by
  have hkey := keyOf_int_mk Tryd.underlying62 (kl32_wf hk)
  have m0 := hB.cell_some hq
  have f0 := hB.frozen q
  have qT : ∀ (w : World) (r : Option Nat), (binOp .eql 40 (.map r) (.map none)).run Tryd.prog w = .ok (.bool r.isNone) w := fun w r => run_eql_map_nil w _ _ _ r Tryd.underlying40
  cases m with
  | some g =>
    have hown : w.ownsMap Tryd.prog 62 R0 g n D := hm
    have hgp := hp g rfl
    have hss := set_same hq
    clear hm hp
    have HB := Lib.hid (And.intro hB hss)
    clear hB hq hss
    go_enter Tryd.func42, Tryd.ntmps42
    go_wp2_with (first
      | (at_mapUpdate; refine wpList_mapUpdate_own _ rfl _ _ _ 40 rfl 62 22 tagKeyed Tryd.underlying40 _ g n D rfl hown hn _ _ _ rfl rfl hkey _ [] rfl ?_; intro w1 hown1 hgrow1)
      | go_in)
    go_end0
    have hk1 : Keeps [g] w w1 := (Keeps.refl [g] w).grown hgrow1 (fun j hj => .inl (by cases hj; simp))
    exact ⟨rfl, g, by rw [HB.out.2]; exact HB.out.1.keeps hk1 (by simpa using fun e => hgp e.symm), hown1, rfl, hk1⟩
  | none =>
    cases hm
    have hlt := hB.lt
    have hsz : (w.setCell ⟨p, q, none⟩ (.map (some w.heap.size))).heap.size = w.heap.size := by simp [World.setCell]
    have hown : ((w.setCell ⟨p, q, none⟩ (.map (some w.heap.size))).alloc (.map #[] 0)).ownsMap Tryd.prog 62 R0 w.heap.size 0 (.map []) := by
      have h := World.ownsMap_made (H := Value) (w.setCell ⟨p, q, none⟩ (.map (some w.heap.size))) Tryd.prog 62 R0
      rwa [hsz] at h
    have h0 : 0 < maxLen := by unfold maxLen; omega
    have hmm := @run_makeMap Tryd.prog
    have HB := Lib.hid hB
    have HO := Lib.hid (And.intro h0 hown)
    clear hB hp h0 hown hsz hq
    go_enter Tryd.func42, Tryd.ntmps42
    go_wp2_with (first
      | (at_mapUpdate; refine wpList_mapUpdate_own _ rfl _ _ _ 40 rfl 62 22 tagKeyed Tryd.underlying40 _ w.heap.size 0 _ rfl HO.out.2 HO.out.1 _ _ _ rfl rfl hkey _ [] rfl ?_; intro w1 hown1 hgrow1)
      | go_in)
    go_end0
    have hB1 : Blk ((w.setCell ⟨p, q, none⟩ (.map (some w.heap.size))).alloc (.map #[] 0)) p (cs.set q (.map (some w.heap.size))) T := (HB.out.set q _).keeps ((Keeps.refl [] _).alloc _) (by simp)
    have hk0 : Keeps [p] w ((w.setCell ⟨p, q, none⟩ (.map (some w.heap.size))).alloc (.map #[] 0)) := ((Keeps.refl [p] w).setCell (by simp) _).alloc _
    have hk1 : Keeps [w.heap.size] ((w.setCell ⟨p, q, none⟩ (.map (some w.heap.size))).alloc (.map #[] 0)) w1 := (Keeps.refl _ _).grown hgrow1 (fun j hj => .inl (by cases hj; simp))
    exact ⟨rfl, w.heap.size, hB1.keeps hk1 (by simp; omega), hown1.mono (by omega), rfl, ((hk0.mono (O' := [w.heap.size, p]) (by simp)).trans (hk1.mono (by simp))).close (Nat.le_refl _)⟩

/-- The blocks that are open while tags are read: the map, once there is one. -/
def mO (m : Option Nat) (O : List Nat) : List Nat := match m with
  | none => O
  | some g => g :: O
theorem mem_mO {m : Option Nat} {O : List Nat} {k : Nat} : k ∈ mO m O ↔ m = some k ∨ k ∈ O := by
  cases m with
  | none => simp [mO]
  | some g => simp [mO, eq_comm]
theorem mO_sub {m : Option Nat} {O : List Nat} {k : Nat} (h : k ∈ O) : k ∈ mO m O := mem_mO.2 (.inr h)

section
variable {gE : Nat} {E : Value}
/-- What the tag that is laid into the map leaves. -/
structure SetOut (gE : Nat) (E : Value) (O : List Nat) (rb b T q : Nat) (m : Option Nat) (D : VD) (k : Nat) (v : Value) (n : Nat) (st : Option (List UInt8)) (cs : List Value) (w w' : World) (g : Nat) : Prop where
  rst : RSt gE E (mO (some g) O) w' rb b (cs.set q (.map (some g))) T st
  own : w'.ownsMap Tryd.prog 62 R0 g (n + 1) (D.put (kl32 k) (.held v))
  new : m = some g ∨ (m = none ∧ g = w.heap.size)
  keeps : Keeps [g, b] w w'
  rb : ∀ {x : Value} {s : List UInt8}, RB (mO m O) w x s → RB (mO (some g) O) w' x s
theorem setOut {O : List Nat} {rb b T q k n g : Nat} {m : Option Nat} {D : VD} {v : Value} {st : Option (List UInt8)} {cs : List Value} {w w' : World} (h : RSt gE E (mO m O) w rb b cs T st)
    (hg : ∀ g, m = some g → g ≠ rb ∧ g ≠ b ∧ g ≠ gE)
    (hb : Blk w' b (cs.set q (.map (some g))) T) (ho : w'.ownsMap Tryd.prog 62 R0 g (n + 1) (D.put (kl32 k) (.held v))) (hf : (m = some g ∧ Keeps [g] w w') ∨ (m = none ∧ g = w.heap.size ∧ Keeps [b] w w')) : SetOut gE E O rb b T q m D k v n st cs w w' g := by
  have hk : Keeps [g, b] w w' := by
    rcases hf with ⟨-, hk⟩ | ⟨-, -, hk⟩
    · exact hk.mono (by simp)
    · exact hk.mono (by simp)
  have hrbl := h.lt rb h.rbO
  have hbl := h.lt b h.bO
  have hgl : gE < w.heap.size := World.block_lt_of_cell? w _ h.glob
  have hgne : g ≠ rb ∧ g ≠ b ∧ g ≠ gE := by
    rcases hf with ⟨hm, -⟩ | ⟨-, hg', -⟩
    · exact hg g hm
    · exact ⟨by omega, by omega, by omega⟩
  have hrbO : rb ∈ O := by
    rcases mem_mO.1 h.rbO with hm | hm
    · exact absurd rfl (hg rb hm).1
    · exact hm
  have hbO : b ∈ O := by
    rcases mem_mO.1 h.bO with hm | hm
    · exact absurd rfl (hg b hm).2.1
    · exact hm
  have hsub : ∀ k, k ∈ [g, b] → k ∈ mO (some g) O := by
    intro k hk
    simp only [List.mem_cons, List.not_mem_nil, or_false] at hk
    rcases hk with rfl | rfl
    · exact mem_mO.2 (.inl rfl)
    · exact mO_sub hbO
  refine ⟨⟨?_, hb, mO_sub hrbO, mO_sub hbO, h.ne, ?_, ?_, ?_⟩, ho, ?_, hk, ?_⟩
  · have h4 : Rdr (mO (some g) O) w rb st := by
      rcases hf with ⟨hm, -⟩ | ⟨hm, hg', -⟩
      · rw [← hm]; exact h.rdr
      · subst hm; exact h.rdr.open (by omega)
    exact h4.other hk (by simp only [List.mem_cons, List.not_mem_nil, or_false, not_or]; exact ⟨fun e => hgne.1 e.symm, fun e => h.ne e.symm⟩) hsub
  · intro j hj
    rcases mem_mO.1 hj with hj | hj
    · cases hj
      exact World.ownsMap.lt ho
    · exact Nat.lt_of_lt_of_le (h.lt j (mO_sub hj)) hk.size
  · exact (World.cell?_of_block (hk.block gE hgl (by simp only [List.mem_cons, List.not_mem_nil, or_false, not_or]; exact ⟨fun e => hgne.2.2 e.symm, fun e => h.gO (e ▸ h.bO)⟩))).trans h.glob
  · intro hj
    rcases mem_mO.1 hj with hj | hj
    · cases hj
      exact hgne.2.2 rfl
    · exact h.gO (mO_sub hj)
  · rcases hf with ⟨hm, -⟩ | ⟨hm, hg', -⟩
    · exact .inl hm
    · exact .inr ⟨hm, hg'⟩
  · intro x s hs
    have hs4 : RB (mO (some g) O) w x s := by
      rcases hf with ⟨hm, -⟩ | ⟨hm, hg', -⟩
      · rw [← hm]; exact hs
      · subst hm; exact hs.openNew (by omega)
    exact hs4.keeps (hk.mono hsub)
end
end Go.Proofs.YtolpnfdegjdibaaDoor
